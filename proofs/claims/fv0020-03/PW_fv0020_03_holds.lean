import PyProof.Rows.All
import Wide.All
import OpenK.AllK
import Wide.FinOn
import Lean
import PySem.Challenge.RW_fv0020_03
set_option Elab.async false
section
open PySem PySem.W PyProof.Rows
set_option Elab.async false
namespace Mine
set_option maxRecDepth 100000 in
set_option maxHeartbeats 8000000 in
open_top hd for PySem.Challenge.rw_fv0020_03
end Mine
end

section
open PySem PySem.W PyProof.Rows
set_option Elab.async false
namespace Mine
noncomputable abbrev PR : Program := PySem.Challenge.rw_fv0020_03.row.prog
noncomputable abbrev KF (w : World) : Frag := hd.heap_39 w.params

section
variable {prog : Program} {w : World} {A : Around} {R : Result → Shared → Prop} {s : Shared} {K : Frag} {name qual : Str} {params : Arguments} {body : List Stmt} {scope : Scope} {dV kV doc pm cdv ct oc : Value} {an od : Option Addr} {osl : Array (Option Value)} {f : Addr} {args : Args} {binds : List (Str × Value)}

theorem hid_fr {h h₁ : Heap} {hid : List Addr} {L : Addr} {m : Str → Option Value} (hns : h₁.Ns L m) (hk : ∀ b o, h.get? b = some o → h₁.get? b = some o) (hL : L = h.objs.size) : Fr (hideAll h hid) L h₁ m :=
  ⟨hns, fun b o e => hk b o (of_hideAll _ e), by rw [hideAll_size, hL]; exact Nat.le_refl _⟩
theorem hid_news {h h₁ : Heap} {hid : List (Addr × Obj)} {L : Addr} (hk : ∀ b o, h.get? b = some o → h₁.get? b = some o) (hL : L = h.objs.size)
    (Hh : ∀ p ∈ hid, h.get? p.1 = some p.2) : News (hideAll h (hid.map (·.1))) L h₁ hid :=
  fun p hp => ⟨hk _ _ (Hh p hp), hL ▸ Nat.ne_of_lt (Heap.lt_size (Hh p hp)), hideAll_none _ (List.mem_map_of_mem hp)⟩

/-- entering a def without cells: the objects of `hid` go to the ledger -/
theorem enter_fn (hid : List (Addr × Obj)) (Hh : ∀ p ∈ hid, s.heap.get? p.1 = some p.2) (X : K.In s.heap) (hlim : s.heap.NoLimit)
    (ho : K.lookup f = some ⟨oc, od, .func (fnOf name qual params body scope dV kV doc pm an cdv ct), osl⟩) (hcd : codeIn K cdv qual = true) (hroom : A.depth < recursionLimit)
    (hbind : BindsTo s (fnOf name qual params body scope dV kV doc pm an cdv ct) args binds) (hloc : ∀ y ∈ binds, scope.names.lookup y.1 = some .local)
    (h : ∀ L h₁, L = s.heap.objs.size → Fr (hideAll s.heap (hid.map (·.1))) L h₁ (fun y => binds.reverse.lookup y) → News (hideAll s.heap (hid.map (·.1))) L h₁ hid → 
      wpAny (model prog w) (A.deeper (envOf qual scope L f cdv)) (execs body (envOf qual scope L f cdv))
        (fun fl s' => R (.ok (.ret (match fl with | .ret v => v | _ => .none))) s') (fun _ _ => False)
        { s with heap := h₁, toks := s.toks + binds.length })
    (hco : scope.isCoroutine = false := by rfl) (hgen : scope.isGenerator = false := by rfl) (hk : scope.kind = .function := by rfl)
    (hcell : ∀ x ∈ scope.names, x.2 ≠ .cell := by decide) : codeAny (model prog w) A (.call (.ref f) args) R s := by
  refine codeAny_call_def (fd := fnOf name qual params body scope dV kV doc pm an cdv ct) (body := body) (binds := binds) hroom (X _ _ ho) rfl hlim (codeRec_of X hcd) rfl hbind hcell hloc (fun h₁ hns hk₁ => ?_) hco hgen hk
  exact wpAny_mono (h _ h₁ rfl (hid_fr hns hk₁ rfl) (hid_news hk₁ rfl Hh)) (fun _ _ x => x) (fun _ _ x => x.elim)

/-- entering a def with cells -/
theorem enter_fnC (hid : List (Addr × Obj)) (Hh : ∀ p ∈ hid, s.heap.get? p.1 = some p.2) (X : K.In s.heap) (hlim : s.heap.NoLimit)
    (ho : K.lookup f = some ⟨oc, od, .func (fnOf name qual params body scope dV kV doc pm an cdv ct), osl⟩) (hcd : codeIn K cdv qual = true) (hroom : A.depth < recursionLimit)
    (hbind : BindsTo s (fnOf name qual params body scope dV kV doc pm an cdv ct) args binds) (hkind : (binds.all fun y => scope.names.lookup y.1 == some .local || scope.names.lookup y.1 == some .cell) = true)
    (hnd : ((cellsFrom 0 scope.names []).map (·.1)).Nodup)
    (h : ∀ L h₁ tk cells, L = s.heap.objs.size → Fr (hideAll s.heap (hid.map (·.1))) L h₁ (bindL (envOfC qual scope L f cdv).kindOf binds fun _ => none) →
      News (hideAll s.heap (hid.map (·.1))) L h₁ (cells ++ hid) → CellsAre (bindC (envOfC qual scope L f cdv).kindOf binds fun _ => none) (cellsFrom (L + 1) scope.names []) cells →
      wpAny (model prog w) (A.deeper (envOfC qual scope L f cdv)) (execs body (envOfC qual scope L f cdv))
        (fun fl s' => R (.ok (.ret (match fl with | .ret v => v | _ => .none))) s') (fun _ _ => False)
        { s with heap := h₁, toks := tk })
    (hco : scope.isCoroutine = false := by rfl) (hgen : scope.isGenerator = false := by rfl) (hk : scope.kind = .function := by rfl) : codeAny (model prog w) A (.call (.ref f) args) R s := by
  refine codeAny_call_function hroom (X _ _ ho) rfl hco hgen rfl (codeRec_of X hcd) (hbind _ _ _ _ ?_)
  refine wpAny_newFunctionEnv_cells hk (kindsX hkind _) fun env' he s' x => ?_
  subst he
  refine ⟨hlim.keeps x.toInCall.keep, codeAny_func ?_⟩
  obtain ⟨h₁, tk, rfl, _⟩ := x.done
  have hk₁ := x.toInCall.keep
  obtain ⟨cells, NC, Y⟩ := Cl.news (h₀ := s.heap) (Nat.le_refl _) fun n c hm => ⟨x.cell n c (lookup_of_mem_nodup (cellsFrom_names scope.names 0 (s.heap.objs.size + 1) [] [] rfl ▸ hnd) hm), x.above n c hm⟩
  refine wpAny_mono (h s.heap.objs.size h₁ tk cells rfl (hid_fr x.toInCall.ns hk₁ rfl) (fun p hp => ?_) Y) (fun _ _ y => y) fun _ _ y => y.elim
  rcases List.mem_append.mp hp with hp | hp
  · refine ⟨(NC p hp).1, (NC p hp).2.1, ?_⟩
    cases q : (hideAll s.heap (hid.map (·.1))).get? p.1 with
    | none => rfl
    | some o => have := of_hideAll _ q; rw [(NC p hp).2.2] at this; cases this
  · exact hid_news hk₁ rfl Hh p hp
end
end Mine
end

section
open PySem PySem.W PyProof.Rows
set_option Elab.async false
namespace Mine
open PySem.Builtin PySem.Builtin.Str

/-- the signs that the table of escapes holds -/
def specials : List Nat := [40,41,91,93,123,125,63,42,43,45,124,94,36,92,46,38,126,35,32,9,10,13,11,12]
def escC (c : Nat) : List Nat := if specials.contains c then [92, c] else [c]
def escL (l : List Nat) : List Nat := l.flatMap escC
def S (l : List Nat) : PySem.Str := ⟨l.toArray⟩

def KeysInt : List DictEntry → Bool
  | [] => true
  | e :: r => (match e.key with | .int i _ => e.hash == hashInt i && specials.any (fun j => (j : Int) == i) | _ => false) && KeysInt r
theorem KeysInt.all : ∀ {l : List DictEntry}, KeysInt l = true → ∀ e ∈ l, ∃ (j : Nat) (t : Tok), j ∈ specials ∧ e.key = .int j t ∧ e.hash = hashInt j
  | e :: r, h, e', hm => by
    simp only [KeysInt, Bool.and_eq_true] at h
    rcases List.mem_cons.mp hm with rfl | hm
    · obtain ⟨h1, _⟩ := h
      split at h1
      · rename_i i t hk
        simp only [Bool.and_eq_true, beq_iff_eq, List.any_eq_true] at h1
        obtain ⟨h2, j, hj, rfl⟩ := h1
        exact ⟨j, t, hj, hk, h2⟩
      · cases h1
    · exact KeysInt.all h.2 _ hm
def valsOk (es : List DictEntry) : Bool := specials.all fun c => match findBy Value.isInt es.toArray (c : Int) with
  | some (.str x _) => x.cps.toList == [92, c]
  | _ => false

structure TabEsc (w : World) (h : Heap) (f : Int → Option Value) : Prop where
  map : h.MapOf (intKind PR w) 164 f
  hit : ∀ c : Nat, specials.contains c = true → ∃ t, f c = some (.str (S [92, c]) t)
  miss : ∀ c : Nat, specials.contains c = false → f c = none

theorem tabEsc_of {w : World} {h : Heap} {es : Array DictEntry} {n : Nat} (X : (KF w).In h) (hl : (KF w).lookup 164 = some ⟨.type "dict", none, .dict es n, #[]⟩)
    (hk : KeysInt es.toList = true) (hv : valsOk es.toList = true) : ∃ f, TabEsc w h f := by
  refine ⟨fun k => findBy Value.isInt es k, ⟨_, es, n, X _ _ hl, ⟨rfl, rfl, rfl⟩, rfl, fun e he => ?_, fun _ => rfl⟩, fun c hc => ?_, fun c hc => ?_⟩
  · obtain ⟨j, t, _, h1, h2⟩ := KeysInt.all hk e (Array.mem_toList_iff.mpr he)
    exact ⟨j, by rw [h1]; simp [intKind, Value.isInt], h2⟩
  · have := List.all_eq_true.mp hv c (List.contains_iff_mem.mp hc)
    split at this
    · rename_i x t hx
      refine ⟨t, ?_⟩
      show findBy Value.isInt es (c : Int) = _
      rw [show es = es.toList.toArray by simp, hx]
      have e : x = S [92, c] := by
        have := eq_of_beq this
        cases x with
        | mk cps => cases cps with
          | mk l => dsimp only at this; rw [this]; rfl
      rw [e]
    · cases this
  · show findBy Value.isInt es (c : Int) = none
    unfold findBy
    rw [Option.map_eq_none_iff, Array.find?_eq_none]
    intro e he
    obtain ⟨j, t, hj, h1, _⟩ := KeysInt.all hk e (Array.mem_toList_iff.mpr he)
    rw [h1]
    intro q
    have : (j : Int) = c := by simpa [Value.isInt] using q
    have : j = c := by omega
    subst this
    rw [List.contains_iff_mem.mpr hj] at hc
    cases hc

theorem sub_KeyError_Lookup : isSubtype (.type "KeyError") (.type "LookupError") = pure true := by rw [isSubtype_type]; kernel_rfl

section
variable {w : World} {A : Around} {s : Shared}
theorem lookup_hit {E : Value → Shared → Prop} {f : Int → Option Value} {c : Nat} {Q : Mapped → Shared → Prop} (T : TabEsc w s.heap f) (hc : specials.contains c = true)
    (h : ∀ tk, Q (.text (S [92, c])) { s with toks := tk }) : wpAny (model PR w) A (tableLookup (.ref 164) c) Q E s := by
  obtain ⟨t, hf⟩ := T.hit c hc
  unfold tableLookup
  refine wpAny_bind (wpAny_attempt (wpAny_bind (wpAny_mkInt ?_)))
  refine wpAny_getItem_of (knd := intKind PR w) (k := (c : Int)) (s := { s with toks := s.toks + 1 }) (by simp [intKind, Value.isInt]) T.map hf ?_
  exact wpAny_pure (h _)
theorem lookup_miss {E : Value → Shared → Prop} {f : Int → Option Value} {c : Nat} {Q : Mapped → Shared → Prop} (hA : A.handled = none) (T : TabEsc w s.heap f) (hc : specials.contains c = false)
    (h : ∀ h' tk, s.heap.StaysIn h' → Q .keep { s with heap := h', toks := tk }) : wpAny (model PR w) A (tableLookup (.ref 164) c) Q E s := by
  have hf := T.miss c hc
  unfold tableLookup
  refine wpAny_bind (wpAny_attempt (wpAny_bind (wpAny_mkInt ?_)))
  refine wpAny_getItem_missing_of (knd := intKind PR w) (k := (c : Int)) (s := { s with toks := s.toks + 1 }) (by simp [intKind, Value.isInt]) (by decide) hA T.map hf fun h' e hx => ?_
  obtain ⟨ob, t, he, hcl, _⟩ := hx.there
  have hT : Shared.TypeIs { s with heap := h', toks := s.toks + 1 + 1 } (.ref e) "KeyError" := (show ∃ o, h'.get? e = some o ∧ o.cls = .type "KeyError" from ⟨ob, he, hcl⟩)
  refine wpAny_bind (wpAny_isInstance hT sub_KeyError_Lookup ?_)
  show wpAny _ A (if true = true then _ else _) _ _ _
  rw [if_pos rfl]
  exact wpAny_bind (wpAny_rule (wpAny_pure (h h' _ hx.keeps)))
end
abbrev TrSt := List PySem.Str × Nat × Bool × List (Nat × Option Nat) × Bool
structure TrInv (w : World) (f : Int → Option Value) (hp : Heap) (g : Array GenState) (d : Drawn) (os : OsState) (x : List Nat) (rest : List Nat) (b : TrSt) (s' : Shared) : Prop where
  st : ∃ h' tk', s' = ⟨h', g, d, tk', os⟩ ∧ hp.StaysIn h'
  tab : TabEsc w s'.heap f
  pre : ∃ p, x = p ++ rest ∧ b.1.reverse.foldl (fun acc q => acc ++ q.cps) #[] = (escL p).toArray ∧ b.2.1 = (escL p).length
  known : ∀ c a, b.2.2.2.1.lookup c = some a → a = some c ∧ specials.contains c = false
  drop : b.2.2.2.2 = false

theorem TabEsc.keeps {w : World} {h h' : Heap} {f : Int → Option Value} (T : TabEsc w h f) (k : h.StaysIn h') : TabEsc w h' f :=
  ⟨let ⟨o, es, ep, ho, r⟩ := T.map; ⟨o, es, ep, k _ _ ho, r⟩, T.hit, T.miss⟩
theorem escL_le : ∀ l : List Nat, (escL l).length ≤ 2 * l.length
  | [] => Nat.le_refl _
  | c :: r => by
    have := escL_le r
    show ((escC c) ++ escL r).length ≤ _
    rw [List.length_append, List.length_cons]
    have : (escC c).length ≤ 2 := by unfold escC; split <;> simp
    omega
theorem escL_snoc (p : List Nat) (c : Nat) : escL (p ++ [c]) = escL p ++ escC c := by simp [escL]
theorem pieces_snoc (ps : List PySem.Str) (q : PySem.Str) : (q :: ps).reverse.foldl (fun acc q => acc ++ q.cps) #[] = ps.reverse.foldl (fun acc q => acc ++ q.cps) #[] ++ q.cps := by
  rw [List.reverse_cons, List.foldl_append]; rfl


section
variable {w : World} {A : Around} {E : Value → Shared → Prop} {f : Int → Option Value} {hp : Heap} {g : Array GenState} {d : Drawn} {os : OsState} {x : List Nat}
theorem trInv_push {h₂ : Heap} {tk : Nat} {p rest : List Nat} {c : Nat} {pieces : List PySem.Str} {total : Nat} {fast : Bool} {known : List (Nat × Option Nat)} {q : PySem.Str} {n : Nat}
    (k₁ : hp.StaysIn h₂) (T : TabEsc w h₂ f) (hx : x = p ++ c :: rest) (hps : pieces.reverse.foldl (fun acc q => acc ++ q.cps) #[] = (escL p).toArray) (htot : total = (escL p).length)
    (hkn : ∀ c a, known.lookup c = some a → a = some c ∧ specials.contains c = false) (hq : q.cps = (escC c).toArray) (hn : n = (escC c).length) :
    TrInv w f hp g d os x rest (q :: pieces, total + n, fast, known, false) ⟨h₂, g, d, tk, os⟩ :=
  ⟨⟨h₂, tk, rfl, k₁⟩, T, ⟨p ++ [c], by rw [hx]; simp, by
    show (q :: pieces).reverse.foldl (fun acc q => acc ++ q.cps) #[] = _
    rw [pieces_snoc, hps, hq, escL_snoc]; simp, by show total + n = _; rw [htot, hn, escL_snoc, List.length_append]⟩, hkn, rfl⟩
theorem escC_hit {c : Nat} (h : specials.contains c = true) : escC c = [92, c] := by unfold escC; rw [if_pos h]
theorem escC_miss {c : Nat} (h : specials.contains c = false) : escC c = [c] := by unfold escC; rw [if_neg (by rw [h]; exact Bool.false_ne_true)]
end

theorem translate_rule {w : World} {A : Around} {hp : Heap} {g : Array GenState} {d : Drawn} {tk : Nat} {os : OsState} {E : Value → Shared → Prop} {f : Int → Option Value} {x : List Nat} {t : Tok} {Q : Fin → Shared → Prop} (hA : A.handled = none) (T : TabEsc w hp f)
    (hlen : x.length ≤ 100000) (h : ∀ h' tk' t', hp.StaysIn h' → Q (.done (.ret (.str (S (escL x)) t'))) ⟨h', g, d, tk', os⟩) :
    wpAny (model PR w) A (Builtin.«str.translate» ⟨[.str (S x) t, .ref 164], []⟩) Q E ⟨hp, g, d, tk, os⟩ := by
  have hle := escL_le x
  unfold Builtin.«str.translate»
  by_cases h0 : x = []
  · subst h0
    wp_walk
    exact h _ _ _ fun _ _ e => e
  have hx : (S x).length ≠ 0 := by
    intro q; apply h0
    have : x.length = 0 := by simpa [S, PySem.Str.length] using q
    exact List.length_eq_zero_iff.mp this
  refine wpAny_bind (wpAny_of_eq (a := (.str (S x) t, S x, .ref 164)) rfl ?_)
  dsimp only
  rw [if_neg (by simpa using hx)]
  refine wpAny_bind (wpAny_mono (MeetsSeq2.wpAny_forIn_array (E := E) _ (fun rest (b : TrSt) s' => TrInv w f hp g d os x rest b s') (fun b s' => TrInv w f hp g d os x [] b s') ?turn (fun _ _ i => i) _ _ ⟨⟨hp, tk, rfl, fun _ _ e => e⟩, T, ⟨[], rfl, rfl, rfl⟩, by intro c a e; simp at e, rfl⟩) (fun b s' i => ?_) (fun _ _ y => y))
  case turn =>
    rintro c rest ⟨pieces, total, fast, known, ad⟩ s' I
    obtain ⟨⟨h₁, tk₁, rfl, k₁⟩, T₁, ⟨p, hp₁, hps, htot⟩, hkn, had⟩ := I
    dsimp only at hps htot hkn had T₁
    subst had
    have hpl : p.length + 1 + rest.length = x.length := by rw [hp₁]; simp; omega
    have hpe := escL_le p
    have hsz : tooLong total = false := by
      unfold tooLong; rw [htot, decide_eq_false_iff_not]; simp only [sizeLine]; omega
    refine wpAny_ite_false (by simpa using hsz) ?_
    cases fast with
    | true =>
      refine wpAny_ite_true rfl ?_
      cases hlk : List.lookup c known with
      | some a =>
        obtain ⟨rfl, hc⟩ := hkn c a hlk
        simp only
        refine wpAny_bind (wpAny_pure (wpAny_pure ?_))
        exact trInv_push k₁ T₁ hp₁ hps htot hkn (by rw [escC_miss hc]) (by rw [escC_miss hc]; rfl)
      | none =>
        simp only
        cases hc : specials.contains c with
        | true =>
          refine wpAny_bind (lookup_hit T₁ hc fun tk => ?_)
          refine wpAny_bind (wpAny_pure (wpAny_bind (wpAny_rule ?_)))
          refine wpAny_ite_false rfl ?_
          refine wpAny_bind (lookup_hit T₁ hc fun tk => wpAny_pure ?_)
          exact trInv_push k₁ T₁ hp₁ hps htot hkn (by rw [escC_hit hc]; rfl) (by rw [escC_hit hc]; rfl)
        | false =>
          refine wpAny_bind (lookup_miss hA T₁ hc fun h' tk k => ?_)
          refine wpAny_bind (wpAny_pure (wpAny_pure ?_))
          refine trInv_push (fun b o e => k b o (k₁ b o e)) (T₁.keeps k) hp₁ hps htot (fun c' a e => ?_) (by rw [escC_miss hc]) (by rw [escC_miss hc]; rfl)
          rw [List.lookup_cons] at e
          split at e
          · rename_i q; cases e
            have := eq_of_beq q; subst this
            exact ⟨rfl, hc⟩
          · exact hkn c' a e
    | false =>
      refine wpAny_ite_false rfl ?_
      refine wpAny_ite_false rfl ?_
      cases hc : specials.contains c with
      | true =>
        refine wpAny_bind (lookup_hit T₁ hc fun tk => wpAny_pure ?_)
        exact trInv_push k₁ T₁ hp₁ hps htot hkn (by rw [escC_hit hc]; rfl) (by rw [escC_hit hc]; rfl)
      | false =>
        refine wpAny_bind (lookup_miss hA T₁ hc fun h' tk k => wpAny_pure ?_)
        exact trInv_push (fun b o e => k b o (k₁ b o e)) (T₁.keeps k) hp₁ hps htot hkn (by rw [escC_miss hc]) (by rw [escC_miss hc]; rfl)
  obtain ⟨⟨h₁, tk₁, rfl, k₁⟩, T₁, ⟨p, hp₁, hps, htot⟩, hkn, had⟩ := i
  obtain ⟨pieces, total, fast, known, ad⟩ := b
  dsimp only at hps htot ⊢
  rw [List.append_nil] at hp₁
  subst hp₁
  have hsz : tooLong total = false := by
    unfold tooLong; rw [htot, decide_eq_false_iff_not]; simp only [sizeLine]; omega
  rw [if_neg (by rw [hsz]; exact Bool.false_ne_true), hps]
  refine wpAny_bind (wpAny_mkStr (wpAny_pure (h _ _ _ k₁)) ?_)
  show (escL x).toArray.size ≤ sizeLine
  simp only [sizeLine, List.size_toArray]
  omega

section
variable {w : World} {A : Around} {s : Shared}
theorem gm_translate {M : Model} {E : Value → Shared → Prop} {x : PySem.Str} {t : Tok} {pl : Sem Bool} {Q : Value × List Value → Shared → Prop} (h : Q (.builtin "str.translate", [.str x t]) s) :
    wpAny M A (getMethod (.str x t) "translate" pl) Q E s :=
  by with_reducible exact GM.of (.str x t) (typeIs_str _ _ _) F.slot_str_translate F.type_str_translate GM.noRef h
set_option maxRecDepth 100000 in
theorem tabEsc {h : Heap} (X : (KF w).In h) : ∃ f, TabEsc w h f :=
  tabEsc_of X (by with_unfolding_all rfl) (by with_unfolding_all rfl) (by with_unfolding_all rfl)
theorem call_translate {E : Value → Shared → Prop} {x : List Nat} {t : Tok} {h₀ : Heap} {L : Addr} {m : PySem.Str → Option Value} {news : List (Addr × Obj)} {Q : Value → Shared → Prop} (hA : A.handled = none) (hlen : x.length ≤ 100000)
    (X : (KF w).In h₀) (Fx : Fr h₀ L s.heap m) (N : News h₀ L s.heap news)
    (h : ∀ h' tk t', Fr h₀ L h' m → News h₀ L h' news → Q (.str (S (escL x)) t') { s with heap := h', toks := tk }) :
    wpAny (model PR w) A (call (.builtin "str.translate") [.str (S x) t, .ref 164]) Q E s := by
  obtain ⟨f, T⟩ := tabEsc (X.keeps Fx.keep)
  refine wpAny_call (codeAny_call_builtin F.slot_str_translate.plain F.entry_str_translate (F.slot_str_translate.check _ _ _ _ _ _ _ _ (typeIs_str _ _ _) (F.args_str_translate_2 _ _) ?_))
  exact translate_rule (A := A.in1) hA T hlen fun h' tk t' k => h h' tk t' ⟨Fx.ns.keeps k, fun b o e => k b o (Fx.keep b o e), Fx.above⟩ fun p hp => ⟨k _ _ (N p hp).1, (N p hp).2⟩
end
end Mine
end

section
open PySem PySem.W PyProof.Rows
set_option Elab.async false
namespace Mine
section
local macro_rules | `(tactic| walk_at "getMethod str") => `(tactic| (k_here; with_reducible refine gm_translate ?_))
local macro_rules | `(tactic| walk_at "call builtin:str.translate") => `(tactic| (k_here; (refine call_translate (by assumption) (by assumption) (by assumption) (by with_reducible assumption) (by with_reducible assumption) ?_); intro h' tk' t' F' N'; k_sweep))
set_option maxRecDepth 100000 in
set_option maxHeartbeats 8000000 in
theorem escape_spec {w : World} {A : Around} {s : Shared} {Q E : Value → Shared → Prop} {x : List Nat} {t : Tok} {loose : List PySem.Str} {mean : ExcName → Option Value} {mg mb : PySem.Str → Option Value}
   (X : (KF w).In s.heap) (T : Top PySem.W.topProg loose mean mg mb s.heap) (hd : A.depth < 900) (hA : A.handled = none) (hlen : x.length ≤ 100000)
   (k : ∀ h' tk t', s.heap.StaysIn h' → Q (.str (S (escL x)) t') { s with heap := h', toks := tk })
   : wpAny (model PR w) A (call (.ref 174) [.str (S x) t]) Q E s := by
  have hA' : ∀ env, (A.deeper env).handled = none := fun _ => hA
  delta PR KF at *
  revert X; k_fill; intro X
  refine wpAny_call ?_
  k_dflt (refine' enter_fn [] (fun _ h => nomatch h) X T.nolimit ?k6 ?k7 ?k8 ?k9 ?kB ?_ ?c2 ?c3 ?c4 ?c5; (case k6 => k_is); (case k7 => k_is); (case k8 => (simp only [recursionLimit]; omega)); (case k9 => exact BindsTo.of_eq rfl); (case kB => exact locs rfl); (case c2 => exact rfl); (case c3 => exact rfl); (case c4 => exact rfl); (case c5 => decide); k_whole)
  intro L h₁ hL F' N'
  simp only [List.map_nil, hideAll] at F' N'
  k_steps
  exact k _ _ _ (Fr.keep (by with_reducible assumption))
end
end Mine
end

section
open PySem PySem.W PyProof.Rows
set_option Elab.async false
namespace Mine

abbrev At (dp : Nat) (fr : Option (List Env)) (gd : Option (List Code)) (un : Nat) : Around := { handled := none, depth := dp, frames := fr, guards := gd, units := un }

/-- the strs of a list of lists of numbers -/
theorem S_toList (l : List Nat) : (S l).cps.toList = l := rfl
theorem S_len (l : List Nat) : (S l).length = l.length := by simp [S, PySem.Str.length]

section
variable {prog : Program} {w : World} {A : Around} {E : Value → Shared → Prop} {s : Shared}
theorem truthy_list_len {l : Addr} {vs : List Value} {ss : List PySem.Str} {Q : Bool → Shared → Prop} (hl : s.heap.IsList l vs.toArray) (hS : StrsAre vs ss) (hn : ss.length ≤ 1000)
    (h : ∀ tk, Q (decide (ss ≠ [])) { s with toks := tk }) : wpAny (model prog w) A (truthy (.ref l)) Q E s := by
  have hlen := StrsAre.length hS
  refine wpAny_truthy_list hl (by simp; omega) ?_
  have e : (!vs.toArray.isEmpty) = decide (ss ≠ []) := by
    cases vs with
    | nil => cases ss with
      | nil => rfl
      | cons _ _ => cases hlen
    | cons _ _ => cases ss with
      | nil => cases hlen
      | cons _ _ => rfl
  rw [e]
  exact h _

theorem argBest_le (bt : Nat → Nat → Bool) : ∀ k, argBest bt k ≤ k
  | 0 => Nat.le_refl _
  | k + 1 => by
    unfold argBest
    split
    · exact Nat.le_refl _
    · exact Nat.le_succ_of_le (argBest_le bt k)
theorem argBest_best {ws : List (List Nat)} {bt : Nat → Nat → Bool} (hbt : ∀ i j, bt i j = decide (ws.getD i [] < ws.getD j [])) :
    ∀ k, ∀ i ≤ k, ¬ ws.getD i [] < ws.getD (argBest bt k) []
  | 0, i, hi => by
    obtain rfl : i = 0 := by omega
    exact List.lt_irrefl _
  | k + 1, i, hi => by
    unfold argBest
    split
    · rename_i hb
      rw [hbt, decide_eq_true_eq] at hb
      rcases Nat.lt_or_ge i (k + 1) with h | h
      · intro q
        exact argBest_best hbt k i (by omega) (List.lt_trans q hb)
      · obtain rfl : i = k + 1 := by omega
        exact List.lt_irrefl _
    · rename_i hb
      rw [hbt, decide_eq_true_eq] at hb
      rcases Nat.lt_or_ge i (k + 1) with h | h
      · exact argBest_best hbt k i (by omega)
      · obtain rfl : i = k + 1 := by omega
        exact hb
theorem argBest_worst {ws : List (List Nat)} {bt : Nat → Nat → Bool} (hbt : ∀ i j, bt i j = decide (ws.getD j [] < ws.getD i [])) :
    ∀ k, ∀ i ≤ k, ¬ ws.getD (argBest bt k) [] < ws.getD i []
  | 0, i, hi => by
    obtain rfl : i = 0 := by omega
    exact List.lt_irrefl _
  | k + 1, i, hi => by
    unfold argBest
    split
    · rename_i hb
      rw [hbt, decide_eq_true_eq] at hb
      rcases Nat.lt_or_ge i (k + 1) with h | h
      · intro q
        exact argBest_worst hbt k i (by omega) (List.lt_trans hb q)
      · obtain rfl : i = k + 1 := by omega
        exact List.lt_irrefl _
    · rename_i hb
      rw [hbt, decide_eq_true_eq] at hb
      rcases Nat.lt_or_ge i (k + 1) with h | h
      · exact argBest_worst hbt k i (by omega)
      · obtain rfl : i = k + 1 := by omega
        exact hb

theorem strs_at {vs : List Value} {ws : List (List Nat)} (hS : StrsAre vs (ws.map S)) {i : Nat} {v : Value} (h : vs[i]? = some v) : ∃ t, v = .str (S (ws.getD i [])) t ∧ i < ws.length := by
  have hl := StrsAre.length hS
  rw [List.length_map] at hl
  have hi : i < ws.length := by rw [← hl]; exact (List.getElem?_eq_some_iff.mp h).1
  obtain ⟨t, ht⟩ := StrsAre.at hS (j := i) (y := S (ws.getD i [])) (by rw [List.getElem?_map]; simp [List.getD_eq_getElem?_getD, hi])
  rw [h] at ht
  exact ⟨t, Option.some.inj ht, hi⟩

theorem min_strs {l : Addr} {vs : List Value} {ws : List (List Nat)} {Q : Value → Shared → Prop} (hA : A.handled = none) (hl : s.heap.IsList l vs.toArray) (hS : StrsAre vs (ws.map S)) (h0 : ws ≠ [])
    (h : ∀ a t h' tk, a ∈ ws → (∀ z ∈ ws, ¬ z < a) → s.heap.StaysIn h' → Q (.str (S a) t) { s with heap := h', toks := tk }) :
    wpAny (model prog w) A (call (.builtin "min") [.ref l]) Q E s := by
  have hlen := StrsAre.length hS
  rw [List.length_map] at hlen
  have hpos : 0 < ws.length := List.length_pos_iff.mpr h0
  refine call_min_walk (wpAny_pyIter_list hl ?_)
  obtain ⟨ol, hol, _⟩ := id hl
  have hlt : l < s.heap.objs.size := Heap.lt_size hol
  refine ⟨_, _, _, _, _, _, fun i j => decide (ws.getD i [] < ws.getD j []), rfl, Walks.list (A := A.in1) hA s.heap.objs.size l (Nat.ne_of_lt hlt) vs.toArray, ⟨⟨_, Heap.get?_push_size _ rfl, rfl, rfl⟩, hl.at fun o e => Heap.get?_push_of_some _ e⟩, ?_, ?_, ?_, fun v h' tk hv hk => ?_⟩
  · intro b hb
    show b < (s.heap.push _).objs.size
    rw [Heap.size_push]
    rcases List.mem_cons.mp hb with rfl | hb
    · exact Nat.lt_succ_self _
    · rw [List.mem_singleton.mp hb]; exact Nat.lt_succ_of_lt hlt
  · simp; omega
  · intro i j vi vj s' Q' E' hi hj hq
    obtain ⟨ti, rfl, _⟩ := strs_at hS (by simpa using hi)
    obtain ⟨tj, rfl, _⟩ := strs_at hS (by simpa using hj)
    exact lt_str hq
  · have hle := argBest_le (fun i j => decide (ws.getD i [] < ws.getD j [])) (vs.toArray.size - 1)
    obtain ⟨t, rfl, hi⟩ := strs_at hS (by simpa using hv)
    refine h _ t h' tk ?_ (fun z hz => ?_) fun b o e => hk b o (fun hb => ?_) (Heap.get?_push_of_some _ e)
    · rw [List.getD_eq_getElem?_getD, List.getElem?_eq_getElem hi]; exact List.getElem_mem hi
    · obtain ⟨i, hi', rfl⟩ := List.getElem_of_mem hz
      have := argBest_best (ws := ws) (bt := fun i j => decide (ws.getD i [] < ws.getD j [])) (fun _ _ => rfl) (vs.toArray.size - 1) i (by simp; omega)
      rw [show ws.getD i [] = ws[i] by rw [List.getD_eq_getElem?_getD, List.getElem?_eq_getElem hi']; rfl] at this
      exact this
    · rw [List.mem_singleton.mp hb] at e; exact Nat.lt_irrefl _ (Heap.lt_size e)

theorem max_strs {l : Addr} {vs : List Value} {ws : List (List Nat)} {Q : Value → Shared → Prop} (hA : A.handled = none) (hl : s.heap.IsList l vs.toArray) (hS : StrsAre vs (ws.map S)) (h0 : ws ≠ [])
    (h : ∀ a t h' tk, a ∈ ws → (∀ z ∈ ws, ¬ a < z) → s.heap.StaysIn h' → Q (.str (S a) t) { s with heap := h', toks := tk }) :
    wpAny (model prog w) A (call (.builtin "max") [.ref l]) Q E s := by
  have hlen := StrsAre.length hS
  rw [List.length_map] at hlen
  have hpos : 0 < ws.length := List.length_pos_iff.mpr h0
  refine call_max_walk (wpAny_pyIter_list hl ?_)
  obtain ⟨ol, hol, _⟩ := id hl
  have hlt : l < s.heap.objs.size := Heap.lt_size hol
  refine ⟨_, _, _, _, _, _, fun i j => decide (ws.getD j [] < ws.getD i []), rfl, Walks.list (A := A.in1) hA s.heap.objs.size l (Nat.ne_of_lt hlt) vs.toArray, ⟨⟨_, Heap.get?_push_size _ rfl, rfl, rfl⟩, hl.at fun o e => Heap.get?_push_of_some _ e⟩, ?_, ?_, ?_, fun v h' tk hv hk => ?_⟩
  · intro b hb
    show b < (s.heap.push _).objs.size
    rw [Heap.size_push]
    rcases List.mem_cons.mp hb with rfl | hb
    · exact Nat.lt_succ_self _
    · rw [List.mem_singleton.mp hb]; exact Nat.lt_succ_of_lt hlt
  · simp; omega
  · intro i j vi vj s' Q' E' hi hj hq
    obtain ⟨ti, rfl, _⟩ := strs_at hS (by simpa using hi)
    obtain ⟨tj, rfl, _⟩ := strs_at hS (by simpa using hj)
    exact P.gt_str hq
  · have hle := argBest_le (fun i j => decide (ws.getD j [] < ws.getD i [])) (vs.toArray.size - 1)
    obtain ⟨t, rfl, hi⟩ := strs_at hS (by simpa using hv)
    refine h _ t h' tk ?_ (fun z hz => ?_) fun b o e => hk b o (fun hb => ?_) (Heap.get?_push_of_some _ e)
    · rw [List.getD_eq_getElem?_getD, List.getElem?_eq_getElem hi]; exact List.getElem_mem hi
    · obtain ⟨i, hi', rfl⟩ := List.getElem_of_mem hz
      have := argBest_worst (ws := ws) (bt := fun i j => decide (ws.getD j [] < ws.getD i [])) (fun _ _ => rfl) (vs.toArray.size - 1) i (by simp; omega)
      rw [show ws.getD i [] = ws[i] by rw [List.getD_eq_getElem?_getD, List.getElem?_eq_getElem hi']; rfl] at this
      exact this
    · rw [List.mem_singleton.mp hb] at e; exact Nat.lt_irrefl _ (Heap.lt_size e)
end
end Mine
end

section
open PySem PySem.W PyProof.Rows
set_option Elab.async false
namespace Mine

theorem S_inj {a b : List Nat} (h : S a = S b) : a = b := by
  have := congrArg (fun x : PySem.Str => x.cps.toList) h
  simpa [S] using this
theorem S_app (a b : List Nat) : S a ++ S b = S (a ++ b) := by
  show PySem.Str.append _ _ = _
  simp [PySem.Str.append, S]
theorem S_beq (a b : List Nat) : ((S a).cps.toList == (S b).cps.toList) = (a == b) := rfl

theorem pick_range (l : List Nat) (a n : Nat) : ((List.range n).map fun k => a + k).filterMap (fun i => l.toArray[i]?) = (l.drop a).take n := by
  induction n generalizing a l with
  | zero => simp
  | succ n ih =>
    rw [List.range_succ_eq_map, List.map_cons, List.filterMap_cons, List.map_map]
    have e : (fun k => a + k) ∘ Nat.succ = fun k => (a + 1) + k := by funext k; simp; omega
    rw [e, ih]
    simp only [Nat.add_zero, List.getElem?_toArray]
    by_cases h : a < l.length
    · rw [List.getElem?_eq_getElem h]
      rw [List.drop_eq_getElem_cons h, List.take_succ_cons]
    · have h' : l.length ≤ a := by omega
      rw [List.getElem?_eq_none h', List.drop_eq_nil_of_le h', List.drop_eq_nil_of_le (by omega)]
      simp

/-- a bound of a slice as a place -/
def clipL (n : Nat) (d : Nat) : Option Int → Nat
  | none => d
  | some i => (max 0 (min (if i < 0 then i + n else i) n)).toNat
theorem range_one (a b : Nat) : sliceRange (a : Int) (b : Int) 1 = (List.range (b - a)).map fun k => a + k := by
  unfold sliceRange
  simp only [show (1 : Int) > 0 by decide, if_true]
  have hn : (if (a : Int) < b then ((b : Int) - a + 1 - 1) / 1 else 0).toNat = b - a := by split <;> omega
  rw [hn]
  apply List.map_congr_left
  intro k _
  omega
theorem slice_S (l : List Nat) (lo hi : Option Int) : Txt.slice (S l) lo hi = S ((l.drop (clipL l.length 0 lo)).take (clipL l.length l.length hi - clipL l.length 0 lo)) := by
  have hidx : Builtin.Str.strSliceIndices lo hi 1 (S l).length = (List.range (clipL l.length l.length hi - clipL l.length 0 lo)).map fun k => clipL l.length 0 lo + k := by
    rw [S_len]
    unfold Builtin.Str.strSliceIndices
    refine (congr (congrArg (fun x y => sliceRange x y 1) (a₂ := (clipL l.length 0 lo : Int)) ?_) (a₂ := (clipL l.length l.length hi : Int)) ?_).trans (range_one _ _)
    · cases lo with
      | none => rfl
      | some i => simp only [clipL, show (1 : Int) > 0 by decide, if_true]; omega
    · cases hi with
      | none => rfl
      | some i => simp only [clipL, show (1 : Int) > 0 by decide, if_true]; omega
  unfold Txt.slice
  rw [hidx, S_len]
  have hp := pick_range l (clipL l.length 0 lo) (clipL l.length l.length hi - clipL l.length 0 lo)
  split
  · rename_i h
    have h2 : clipL l.length l.length hi - clipL l.length 0 lo = l.length := by simpa using h
    have hc : clipL l.length l.length hi ≤ l.length := by
      cases hi with
      | none => exact Nat.le_refl _
      | some i => simp only [clipL]; omega
    have : clipL l.length 0 lo = 0 ∨ l.length = 0 := by omega
    rw [h2]
    rcases this with h | h
    · rw [h]; simp
    · have : l = [] := List.length_eq_zero_iff.mp h
      subst this; simp
  · show PySem.Str.mk _ = _
    rw [show (fun x => (S l).cps[x]?) = fun i => l.toArray[i]? from rfl, hp]
    rfl

theorem item_S {l : List Nat} {i : Int} (h0 : 0 ≤ i) (h : i < l.length) : Txt.item (S l) i = S [l.getD i.toNat 0] := by
  have h1 : ¬ i < 0 := by omega
  have hs : seqIndex? i (S l).length = some i.toNat := by
    unfold seqIndex?
    rw [S_len]
    simp only [h1, if_false]
    rw [if_pos (by simp; omega)]
  unfold Txt.item Txt.charAt
  rw [hs]
  have hi : i.toNat < l.length := by omega
  simp [S, List.getD_eq_getElem?_getD, hi]
theorem slice_to {l : List Nat} {j : Int} (h0 : 0 ≤ j) : Txt.slice (S l) none (some j) = S (l.take j.toNat) := by
  rw [slice_S]
  simp only [clipL, List.drop_zero, Nat.sub_zero]
  have : ¬ j < 0 := by omega
  simp only [this, if_false]
  congr 1
  rcases Int.le_total j l.length with h | h
  · congr 1; omega
  · rw [List.take_of_length_le (by omega), List.take_of_length_le (by omega)]
theorem slice_from {l : List Nat} {j : Int} (h0 : 0 ≤ j) : Txt.slice (S l) (some j) none = S (l.drop j.toNat) := by
  rw [slice_S]
  simp only [clipL]
  have : ¬ j < 0 := by omega
  simp only [this, if_false]
  congr 1
  rcases Int.le_total j l.length with h | h
  · rw [List.take_of_length_le (by simp <;> omega)]
    congr 1; omega
  · rw [List.drop_eq_nil_of_le (by omega), List.drop_eq_nil_of_le (by omega)]; simp
theorem slice_two {l : List Nat} {i j : Int} (h0 : 0 ≤ i) (hij : i ≤ j) : Txt.slice (S l) (some i) (some j) = S ((l.drop i.toNat).take (j - i).toNat) := by
  rw [slice_S]
  simp only [clipL]
  have h1 : ¬ i < 0 := by omega
  have h2 : ¬ j < 0 := by omega
  simp only [h1, h2, if_false]
  congr 1
  rcases Int.le_total i l.length with h | h
  · rw [show (max 0 (min i (l.length : Int))).toNat = i.toNat by omega]
    rcases Int.le_total j l.length with h' | h'
    · congr 1; omega
    · rw [List.take_of_length_le (by simp; omega), List.take_of_length_le (by simp; omega)]
  · rw [List.drop_eq_nil_of_le (by omega), List.drop_eq_nil_of_le (by omega)]; simp
theorem slice_neg {l : List Nat} {j : Int} (h0 : j < 0) : Txt.slice (S l) none (some j) = S (l.take (l.length - (-j).toNat)) := by
  rw [slice_S]
  simp only [clipL, List.drop_zero, Nat.sub_zero, h0, if_true]
  congr 2; omega
theorem slice_rev {l : List Nat} {u : Tok} : Txt.sliceBy (S l) none none (-1, u) = S l.reverse := by
  have h := step_rev_list (S l) u
  have e : (Txt.sliceBy (S l) none none (-1, u)).cps.toList = l.reverse := by
    rw [h, S_len]
    apply List.ext_getElem
    · simp
    · intro i h1 h2
      simp only [List.getElem_map, List.getElem_range, List.getElem_reverse]
      simp at h1 h2
      show l.toArray.getD _ 0 = _
      simp [Array.getD, show l.length - 1 - i < l.length by omega]
  cases hx : Txt.sliceBy (S l) none none (-1, u) with
  | mk cps =>
    rw [hx] at e
    show PySem.Str.mk cps = PySem.Str.mk _
    congr 1
    exact Array.ext' (by simpa using e)
end Mine
end

section
open PySem PySem.W PyProof.Rows
set_option Elab.async false
namespace Mine
section
variable {prog : Program} {w : World} {A : Around} {R : Result → Shared → Prop} {s : Shared}
  {elt t0 i0 t1 i1 : Expr} {ifs : List Expr} {scope : Scope} {pos : Pos} {it acc : Value} {env : Env}

abbrev two (elt t0 i0 t1 i1 : Expr) (ifs : List Expr) (scope : Scope) (pos : Pos) : Expr := .ListComp elt [⟨t0, i0, [], 0⟩, ⟨t1, i1, ifs, 0⟩] scope pos

theorem turn_inner : compTurn (two elt t0 i0 t1 i1 ifs scope pos) 1 it acc env = (do
      standAt i1.pos
      match ← pyNext it with
      | none => pure (.done .next)
      | some v =>
        letOwnedTupleGo t1 it v
        assign t1 env v
        let mut ok := true
        for c in ifs do
          if ok then ok ← isTrue c env (eval c env)
        if ok then
          (do let _ ← call (.builtin "list.append") [acc, ← eval elt env])
        again (.compLoop (two elt t0 i0 t1 i1 ifs scope pos) 1 it acc env)) := by rfl
theorem turn_outer : compTurn (two elt t0 i0 t1 i1 ifs scope pos) 0 it acc env = (do
      standAt i0.pos
      match ← pyNext it with
      | none => pure (.done .next)
      | some v =>
        letOwnedTupleGo t0 it v
        assign t0 env v
        let mut ok := true
        for c in ([] : List Expr) do
          if ok then ok ← isTrue c env (eval c env)
        if ok then
          let x ← eval i1 env
          standAt i1.pos
          let x ← foldedSetIterable i1 env x
          let _ ← runOwn (.compStart (two elt t0 i0 t1 i1 ifs scope pos) 1 (← holding [x] (pyIter x)) acc env) env
        again (.compLoop (two elt t0 i0 t1 i1 ifs scope pos) 0 it acc env)) := by rfl

/-- the inner loop; what raises is shut out -/
theorem loop_inner (I : Nat → Shared → Prop)
    (turn : ∀ n s, I n s → wpAny (model prog w) A (pyNext it) (fun r s₁ => match r with
      | none => R (.ok .next) s₁
      | some v => wpAny (model prog w) A (assign t1 env v) (fun _ s₂ =>
          wpAny (model prog w) A (forIn ifs true fun c r => if r = true then do let ok ← isTrue c env (eval c env); pure (ForInStep.yield ok) else pure (ForInStep.yield r)) (fun ok s₃ =>
            if ok = true then wpAny (model prog w) A (eval elt env) (fun x s₄ =>
              wpAny (model prog w) A (call (.builtin "list.append") [acc, x]) (fun _ s₅ => ∃ m, m < n ∧ I m s₅) (fun _ _ => False) s₄) (fun _ _ => False) s₃
            else ∃ m, m < n ∧ I m s₃) (fun _ _ => False) s₂) (fun _ _ => False) s₁) (fun _ _ => False) s)
    (n : Nat) (h : I n s) (ht : ∀ v, letOwnedTupleGo t1 it v = pure () := by intro _; rfl) :
    codeAny (model prog w) A (.compLoop (two elt t0 i0 t1 i1 ifs scope pos) 1 it acc env) R s := by
  refine codeAny_loop rfl I (fun n s hI => ?_) n h
  show wpAny _ A ((compTurn (two elt t0 i0 t1 i1 ifs scope pos) 1 it acc env).onRaise (fun x => do noteFrame x env; theTreesLotGoes x)) _ _ s
  refine wpAny_noted ?_
  rw [turn_inner]
  refine wpAny_bind (wpAny_standAt (wpAny_bind (wpAny_mono (turn n s hI) (fun r s₁ h₁ => ?_) fun _ _ h' => h'.elim)))
  cases r with
  | none => exact wpAny_pure h₁
  | some v =>
    refine wpAny_bind (wpAny_of_eq (ht v) ?_)
    refine wpAny_bind (wpAny_mono h₁ (fun _ s₂ h₂ => wpAny_bind (wpAny_mono h₂ (fun ok s₃ h₃ => ?_) fun _ _ h' => h'.elim)) fun _ _ h' => h'.elim)
    cases ok with
    | false => exact wpAny_pure ⟨rfl, h₃⟩
    | true =>
      exact wpAny_bind (wpAny_bind (wpAny_mono h₃ (fun x s₄ h₄ => wpAny_bind (wpAny_mono h₄ (fun _ s₅ h₅ => wpAny_pure (wpAny_pure ⟨rfl, h₅⟩)) fun _ _ h' => h'.elim)) fun _ _ h' => h'.elim))

theorem start_any {d : Nat} (hasync : (((clausesOf (two elt t0 i0 t1 i1 ifs scope pos))[d]?).elim false (·.is_async != 0)) = false)
    (h0 : codeAny (model prog w) A (.compLoop (two elt t0 i0 t1 i1 ifs scope pos) d it acc env) R s)
    (h : wpAny (model prog w) A (pyIter it) (fun it' s' => codeAny (model prog w) A (.compLoop (two elt t0 i0 t1 i1 ifs scope pos) d it' acc env) R s') (fun _ _ => False) s) :
    codeAny (model prog w) A (.compStart (two elt t0 i0 t1 i1 ifs scope pos) d it acc env) R s := by
  refine codeAny_of_tree ?_
  show wpAny _ A ((compStart (two elt t0 i0 t1 i1 ifs scope pos) d it acc env).onRaise (fun x => do noteFrame x env; standAt theWindowsPlace)) _ _ s
  refine wpAny_notedAt ?_
  unfold compStart
  rw [if_neg (by rw [hasync]; exact Bool.false_ne_true)]
  show wpAny _ _ (ask >>= _) _ _ s
  refine wpAny_bind (wpAny_askSetting (wpAny_ite ?_))
  split
  · exact wpAny_bind (wpAny_pure (wpAny_pure (And.intro rfl h0)))
  · refine wpAny_bind (wpAny_rule ?_)
    cases (clausesOf (two elt t0 i0 t1 i1 ifs scope pos))[d]? with
    | none => exact wpAny_bind (wpAny_mono h (fun it' s' h' => wpAny_pure (And.intro rfl h')) fun _ _ x => x.elim)
    | some g => exact wpAny_bind (wpAny_standAt (wpAny_bind (wpAny_mono h (fun it' s' h' => wpAny_pure (And.intro rfl h')) fun _ _ x => x.elim)))

theorem loop_outer (I : Nat → Shared → Prop)
    (turn : ∀ n s, I n s → wpAny (model prog w) A (pyNext it) (fun r s₁ => match r with
      | none => R (.ok .next) s₁
      | some v => wpAny (model prog w) A (assign t0 env v) (fun _ s₂ => wpAny (model prog w) A (eval i1 env) (fun x s₃ => wpAny (model prog w) A (pyIter x) (fun it' s₄ =>
          codeAny (model prog w) A (.compStart (two elt t0 i0 t1 i1 ifs scope pos) 1 it' acc env) (fun r s₅ => r = .ok .next ∧ ∃ m, m < n ∧ I m s₅) s₄)
          (fun _ _ => False) s₃) (fun _ _ => False) s₂) (fun _ _ => False) s₁) (fun _ _ => False) s)
    (n : Nat) (h : I n s) (ht : ∀ v, letOwnedTupleGo t0 it v = pure () := by intro _; rfl) (hs : ∀ x, foldedSetIterable i1 env x = pure x := by intro _; rfl) :
    codeAny (model prog w) A (.compLoop (two elt t0 i0 t1 i1 ifs scope pos) 0 it acc env) R s := by
  refine codeAny_loop rfl I (fun n s hI => ?_) n h
  show wpAny _ A ((compTurn (two elt t0 i0 t1 i1 ifs scope pos) 0 it acc env).onRaise (fun x => do noteFrame x env; theTreesLotGoes x)) _ _ s
  refine wpAny_noted ?_
  rw [turn_outer]
  refine wpAny_bind (wpAny_standAt (wpAny_bind (wpAny_mono (turn n s hI) (fun r s₁ h₁ => ?_) fun _ _ h' => h'.elim)))
  cases r with
  | none => exact wpAny_pure h₁
  | some v =>
    refine wpAny_bind (wpAny_of_eq (ht v) ?_)
    refine wpAny_bind (wpAny_mono h₁ (fun _ s₂ h₂ => wpAny_bind (wpAny_pure ?_)) fun _ _ h' => h'.elim)
    refine wpAny_bind (wpAny_mono h₂ (fun x s₃ h₃ => ?_) fun _ _ h' => h'.elim)
    refine wpAny_bind (wpAny_standAt (wpAny_bind (wpAny_of_eq (hs x) (wpAny_bind (wpAny_holding (wpAny_mono h₃ (fun it' s₄ h₄ => ?_) fun _ _ h' => h'.elim))))))
    refine wpAny_bind (wpAny_onRaise (wpAny_run (codeAny_mono h₄ fun r s₅ h₅ => ?_)))
    obtain ⟨rfl, h₅⟩ := h₅
    exact wpAny_pure ⟨rfl, h₅⟩

/-- a comprehension with two for clauses -/
theorem comp_two {cl : List (PySem.Str × Addr)} {Q : Value → Shared → Prop} {E : Value → Shared → Prop} {x0 x1 : PySem.Str} {p0 p1 : Pos}
    (hclos : closureFor scope env = pure cl) (hcell : ∀ y ∈ scope.names, y.2 ≠ .cell) (hkind : scope.kind = .function)
    (hnames : ∀ y ∈ scope.names, y.2 = .local → scope.names.lookup y.1 = some .local)
    (h : wpAny (model prog w) A (eval i0 env) (fun xv s₁ => wpAny (model prog w) A (pyIter xv) (fun it s₂ =>
      ∀ h₁ tk D C, D = s₂.heap.objs.size → C = s₂.heap.objs.size + 1 → (∀ b o, s₂.heap.get? b = some o → h₁.get? b = some o) → h₁.get? D = some { cls := .type "list", data := .seq #[] 0 } → h₁.Ns C (fun _ => none) →
        wpAny (model prog w) A (pyIter it) (fun it' s₃ => it' = it ∧ s₃ = { s₂ with heap := h₁, toks := tk }) (fun _ _ => False) { s₂ with heap := h₁, toks := tk } ∧
        codeAny (model prog w) A (.compLoop (two elt (.Name x0 p0) i0 (.Name x1 p1) i1 ifs scope pos) 0 it (.ref D) (compEnvC scope cl C env))
          (fun r s' => r = .ok .next ∧ ∃ m, s'.heap.Ns C m ∧ ∀ h', Heap.SameBut C s'.heap h' → Q (.ref D) { s' with heap := h' }) { s₂ with heap := h₁, toks := tk }) E s₁) E s)
    (hs : ∀ x, foldedSetIterable i0 env x = pure x := by intro _; rfl) :
    wpAny (model prog w) A (eval (two elt (.Name x0 p0) i0 (.Name x1 p1) i1 ifs scope pos) env) Q E s := by
  rw [eval_ListComp]
  refine wpAny_comprehension_free (use := none) rfl hs hclos hkind hnames (wpAny_mono h (fun xv s₁ h₁ => wpAny_mono h₁ (fun it s₂ h₂ => ?_) fun _ _ e => e) fun _ _ e => e)
  refine wpAny_newObj_type (wpAny_newFunctionEnv hcell (by intro y hy; simp at hy) (fun h₁ hns₁ hsb₁ => ?_) hkind)
  dsimp only at hns₁ hsb₁ ⊢
  generalize hH2 : s₂.heap.push { cls := .type "list", dict := none, data := .seq ([] : List Value).toArray } = H2 at hns₁ hsb₁ ⊢
  have hC : H2.objs.size = s₂.heap.objs.size + 1 := by rw [← hH2, Heap.size_push]
  have hDC : s₂.heap.objs.size ≠ H2.objs.size := by rw [hC]; exact Nat.ne_of_lt (Nat.lt_succ_self _)
  have old : ∀ b o, s₂.heap.get? b = some o → h₁.get? b = some o := fun b o e =>
    hsb₁.extBut b o (by rw [hC]; exact Nat.ne_of_lt (Nat.lt_succ_of_lt (Heap.lt_size e))) (Heap.get?_push_of_some _ (hH2 ▸ Heap.get?_push_of_some _ e))
  have hacc : h₁.get? s₂.heap.objs.size = some { cls := .type "list", data := .seq #[] 0 } := hsb₁.extBut _ _ hDC (Heap.get?_push_of_some _ (hH2 ▸ Heap.get?_push_size _ rfl))
  obtain ⟨hit, hloop⟩ := h₂ h₁ (s₂.toks + ([] : List (PySem.Str × Value)).length) s₂.heap.objs.size H2.objs.size rfl hC old hacc (by simpa using hns₁)
  refine codeAny_mono (R := fun r s' => r = .ok .next ∧ ∃ m, s'.heap.Ns H2.objs.size m ∧ ∀ h', Heap.SameBut H2.objs.size s'.heap h' → Q (.ref s₂.heap.objs.size) { s' with heap := h' }) ?_ (fun r s' hr => ?_)
  · exact start_any rfl hloop (wpAny_mono hit (fun it' s₃ hx => by obtain ⟨rfl, rfl⟩ := hx; exact hloop) fun _ _ e => e)
  · obtain ⟨rfl, hr⟩ := hr
    exact hr
end
end Mine
end

section
open PySem PySem.W PyProof.Rows
set_option Elab.async false
namespace Mine

/-- each ahead with each last -/
def joined (a l : List (List Nat)) : List (List Nat) := a.flatMap fun x => l.map fun y => x ++ y
theorem joined_length (a l : List (List Nat)) : (joined a l).length = a.length * l.length := by
  induction a with
  | nil => simp [joined]
  | cons x r ih =>
    have : joined (x :: r) l = l.map (fun y => x ++ y) ++ joined r l := by simp [joined]
    rw [this, List.length_append, ih, List.length_map, List.length_cons, Nat.succ_mul, Nat.add_comm]
theorem joined_snoc (a l : List (List Nat)) (x : List Nat) : joined (a ++ [x]) l = joined a l ++ l.map fun y => x ++ y := by simp [joined]

abbrev lobj (ys : Array Value) (n : Nat) : Obj := { cls := .type "list", data := .seq ys n }

theorem strs_push {ys : Array Value} {ls : List (List Nat)} {x : List Nat} {t : Tok} (h : StrsAre ys.toList (ls.map S)) : StrsAre (ys.push (.str (S x) t)).toList ((ls ++ [x]).map S) := by
  rw [Array.toList_push, List.map_append]
  exact h.append' (.cons _ _ .nil)
theorem strs_size {ys : Array Value} {ls : List (List Nat)} (h : StrsAre ys.toList (ls.map S)) : ys.size = ls.length := by
  have := StrsAre.length h
  simpa using this
theorem strs_item {vs : List Value} {ls : List (List Nat)} (h : StrsAre vs (ls.map S)) {i : Nat} (hi : i < ls.length) : ∃ t, vs[i]? = some (.str (S (ls[i])) t) :=
  StrsAre.at h (by rw [List.getElem?_map, List.getElem?_eq_getElem hi]; rfl)

section
variable {prog : Program} {w : World} {A : Around} {R : Result → Shared → Prop} {s : Shared} {i0 : Expr} {scope : Scope} {pos p0 p1 pa pb pl pe : Pos} {cenv : Env}
  {I D l l2 c : Addr} {vs vs2 : List Value} {ws us : List (List Nat)}

structure JEnv (cenv : Env) (c : Addr) : Prop where
  fn : cenv.scope.kind = .function
  first : cenv.kindOf (PySem.Str.ofString "first") = some .local
  second : cenv.kindOf (PySem.Str.ofString "second") = some .local
  last : cenv.kindOf (PySem.Str.ofString "last") = some .cell
  cell : cenv.cells.lookup (PySem.Str.ofString "last") = some c
theorem JEnv.plain (J : JEnv cenv c) : (cenv.scope.kind == .class || (cenv.scope.kind == .module && cenv.locals != cenv.globals)) = false := by rw [J.fn]; rfl

theorem ns_congr {h : Heap} {a : Addr} {m m' : PySem.Str → Option Value} (x : h.Ns a m) (e : m = m') : h.Ns a m' := e ▸ x
theorem isCell_ext {h h' : Heap} {X : List Addr} {v : Option Value} (x : h.IsCell c v) (hc : c ∉ X) (k : ∀ b o, b ∉ X → h.get? b = some o → h'.get? b = some o) : h'.IsCell c v := by
  obtain ⟨o, ho, hd⟩ := x
  exact ⟨o, k c o hc ho, hd⟩

theorem inner_loop {I2 : Addr} {x : List Nat} {t : Tok} {zs : List (List Nat)} {ys : Array Value} {n : Nat} (hA : A.handled = none) (J : JEnv cenv c)
    (hit : s.heap.IsListIter I2 l2 0) (hl2 : s.heap.IsList l2 vs2.toArray) (hS2 : StrsAre vs2 (us.map S)) (hD : s.heap.get? D = some (lobj ys n)) (hys : StrsAre ys.toList (zs.map S))
    (hn : s.heap.Ns cenv.locals (fun y => if y = PySem.Str.ofString "first" then some (.str (S x) t) else if y = PySem.Str.ofString "second" then m2 else none))
    (hID : I2 ≠ D) (hIC : I2 ≠ cenv.locals) (hDC : D ≠ cenv.locals) (hlI : l2 ≠ I2) (hlD : l2 ≠ D) (hlC : l2 ≠ cenv.locals) 
    (hx : x.length ≤ 100000) (hus : ∀ u ∈ us, u.length ≤ 100000) (hsz : zs.length + us.length ≤ 1000000)
    (hR : ∀ h' tk ys' n' m2', h'.get? D = some (lobj ys' n') → StrsAre ys'.toList ((zs ++ us.map fun y => x ++ y).map S) →
      h'.Ns cenv.locals (fun y => if y = PySem.Str.ofString "first" then some (.str (S x) t) else if y = PySem.Str.ofString "second" then m2' else none) →
      (∀ b o, b ∉ [I2, D, cenv.locals] → s.heap.get? b = some o → h'.get? b = some o) → R (.ok .next) { s with heap := h', toks := tk }) :
    codeAny (model prog w) A (.compLoop (two (.BinOp (.Name (PySem.Str.ofString "first") pa) .Add (.Name (PySem.Str.ofString "second") pb) pe) (.Name (PySem.Str.ofString "first") p0) i0 (.Name (PySem.Str.ofString "second") p1) (.Name (PySem.Str.ofString "last") pl) [] scope pos) 1 (.ref I2) (.ref D) cenv) R s := by
  have hlen := StrsAre.length hS2
  rw [List.length_map] at hlen
  refine loop_inner (fun k s' => ∃ h' tk j ys' n' m2', s' = { s with heap := h', toks := tk } ∧ k = us.length + 1 - j ∧ j ≤ us.length ∧ h'.IsListIter I2 l2 j ∧ h'.IsList l2 vs2.toArray ∧ h'.get? D = some (lobj ys' n') ∧
      StrsAre ys'.toList ((zs ++ (us.take j).map fun y => x ++ y).map S) ∧
      h'.Ns cenv.locals (fun y => if y = PySem.Str.ofString "first" then some (.str (S x) t) else if y = PySem.Str.ofString "second" then m2' else none) ∧
      (∀ b o, b ∉ [I2, D, cenv.locals] → s.heap.get? b = some o → h'.get? b = some o)) ?_ (us.length + 1)
    ⟨s.heap, s.toks, 0, ys, n, m2, rfl, rfl, Nat.zero_le _, hit, hl2, hD, by simpa using hys, hn, fun _ _ _ e => e⟩
  rintro k s' ⟨h', tk, j, ys', n', m2', rfl, rfl, hj, hit', hl', hD', hys', hn', hk⟩
  by_cases hlt : j < us.length
  · obtain ⟨tu, hv⟩ := strs_item hS2 hlt
    have hu := hus _ (List.getElem_mem hlt)
    refine wpAny_pyNext_list_item hit' hl' (x := .str (S us[j]) tu) (by simpa using hv) fun h₁ hit₁ hs₁ => ?_
    replace hs₁ : Heap.SameBut I2 h' h₁ := hs₁
    dsimp only
    refine wpAny_assign_Name (wpAny_storeName_local J.second (hn'.extBut hs₁.extBut (Ne.symm hIC)) (fun h₂ hn₂ hs₂ => ?_) J.plain)
    replace hs₂ : Heap.SameBut cenv.locals h₁ h₂ := hs₂
    dsimp only
    refine wpAny_tests_nil ?_
    rw [if_pos rfl]
    refine wpAny_BinOp ?_
    refine wpAny_Name (wpAny_loadName_local J.fn J.first hn₂ (v := .str (S x) t) (by rw [if_neg (by decide)]; rfl) ?_)
    refine wpAny_Name (wpAny_loadName_local J.fn J.second hn₂ (v := .str (S us[j]) tu) (by rw [if_pos rfl]) ?_)
    refine SBL.add (fun t' k' _ => ?_) (by rw [S_len, S_len]; simp only [sizeLine]; omega)
    rw [S_app]
    dsimp only
    have hD₂ : h₂.get? D = some (lobj ys' n') := hs₂.extBut _ _ hDC (hs₁.extBut _ _ (Ne.symm hID) hD')
    have hsz' := strs_size hys'
    refine append_at (n := n') ?hD (fun h₃ hs₃ hD₃ => ?_) (by rw [hsz']; simp only [List.length_append, List.length_map, List.length_take, sizeLine]; omega)
    case hD => exact hD₂
    replace hs₃ : Heap.SameBut D h₂ h₃ := hs₃
    refine ⟨us.length + 1 - (j + 1), by omega, h₃, k', j + 1, _, _, some (.str (S us[j]) tu), rfl, rfl, hlt, (hit₁.extBut hs₂.extBut hIC).extBut hs₃.extBut hID, ((hl'.extBut hs₁.extBut hlI).extBut hs₂.extBut hlC).extBut hs₃.extBut hlD, hD₃, ?_, ?_, fun b o hb e => ?_⟩
    · have e : zs ++ (us.take (j + 1)).map (fun y => x ++ y) = (zs ++ (us.take j).map fun y => x ++ y) ++ [x ++ us[j]] := by
        rw [List.take_succ_eq_append_getElem hlt, List.map_append, List.append_assoc]; rfl
      rw [e]
      exact strs_push hys'
    · have := hn₂.extBut hs₃.extBut (Ne.symm hDC)
      refine ns_congr this (funext fun y => ?_)
      by_cases h1 : y = PySem.Str.ofString "second"
      · subst h1; rw [if_pos rfl, if_neg (by decide), if_pos rfl]
      · rw [if_neg h1]; by_cases h2 : y = PySem.Str.ofString "first"
        · rw [if_pos h2, if_pos h2]
        · rw [if_neg h2, if_neg h2, if_neg h1, if_neg h1]
    · simp only [List.mem_cons, List.not_mem_nil, or_false, not_or] at hb
      exact hs₃.extBut _ _ hb.2.1 (hs₂.extBut _ _ hb.2.2 (hs₁.extBut _ _ hb.1 (hk b o (by simp [hb]) e)))
  · have hj' : j = us.length := by omega
    subst hj'
    refine wpAny_pyNext_list_end hA hit' hl' (by simp; omega) fun h₁ hs₁ => ?_
    replace hs₁ : Heap.ExtBut I2 h' h₁ := hs₁
    refine hR h₁ tk ys' n' m2' (hs₁ _ _ (Ne.symm hID) hD') (by simpa using hys') (hn'.extBut hs₁ (Ne.symm hIC)) fun b o hb e => ?_
    simp only [List.mem_cons, List.not_mem_nil, or_false, not_or] at hb
    exact hs₁ _ _ hb.1 (hk b o (by simp [hb]) e)

theorem outer_loop (hA : A.handled = none) (J : JEnv cenv c)
    (hit : s.heap.IsListIter I l 0) (hl : s.heap.IsList l vs.toArray) (hS : StrsAre vs (ws.map S)) (hl2 : s.heap.IsList l2 vs2.toArray) (hS2 : StrsAre vs2 (us.map S)) (hD : s.heap.get? D = some (lobj #[] 0))
    (hn : s.heap.Ns cenv.locals (fun _ => none)) (hc : s.heap.IsCell c (some (.ref l2)))
    (hID : I ≠ D) (hIC : I ≠ cenv.locals) (hDC : D ≠ cenv.locals) (hlI : l ≠ I) (hlD : l ≠ D) (hlC : l ≠ cenv.locals) (hl2I : l2 ≠ I) (hl2D : l2 ≠ D) (hl2C : l2 ≠ cenv.locals) (hcI : c ≠ I) (hcD : c ≠ D) (hcC : c ≠ cenv.locals)
    (hws : ∀ u ∈ ws, u.length ≤ 100000) (hus : ∀ u ∈ us, u.length ≤ 100000) (hsz : ws.length * us.length ≤ 1000000)
    (hR : ∀ h' tk ys' n' m', h'.get? D = some (lobj ys' n') → StrsAre ys'.toList ((joined ws us).map S) → h'.Ns cenv.locals m' →
      (∀ b o, b ∉ [I, D, cenv.locals] → s.heap.get? b = some o → h'.get? b = some o) → R (.ok .next) { s with heap := h', toks := tk }) :
    codeAny (model prog w) A (.compLoop (two (.BinOp (.Name (PySem.Str.ofString "first") pa) .Add (.Name (PySem.Str.ofString "second") pb) pe) (.Name (PySem.Str.ofString "first") p0) i0 (.Name (PySem.Str.ofString "second") p1) (.Name (PySem.Str.ofString "last") pl) [] scope pos) 0 (.ref I) (.ref D) cenv) R s := by
  have hlen := StrsAre.length hS
  rw [List.length_map] at hlen
  refine loop_outer (fun k s' => ∃ h' tk i ys' n' m1 m2, s' = { s with heap := h', toks := tk } ∧ k = ws.length + 1 - i ∧ i ≤ ws.length ∧ h'.IsListIter I l i ∧ h'.get? D = some (lobj ys' n') ∧
      StrsAre ys'.toList ((joined (ws.take i) us).map S) ∧
      h'.Ns cenv.locals (fun y => if y = PySem.Str.ofString "first" then m1 else if y = PySem.Str.ofString "second" then m2 else none) ∧
      (∀ b o, b ∉ [I, D, cenv.locals] → s.heap.get? b = some o → h'.get? b = some o)) ?_ (ws.length + 1)
    ⟨s.heap, s.toks, 0, #[], 0, none, none, rfl, rfl, Nat.zero_le _, hit, hD, .nil, ns_congr hn (funext fun y => by split <;> (try split) <;> rfl), fun _ _ _ e => e⟩
  rintro k s' ⟨h', tk, i, ys', n', m1, m2, rfl, rfl, hi, hit', hD', hys', hn', hk⟩
  have off : ∀ {b : Addr}, b ≠ I → b ≠ D → b ≠ cenv.locals → b ∉ [I, D, cenv.locals] := fun h1 h2 h3 hm => by simp [h1, h2, h3] at hm
  have hl' : h'.IsList l vs.toArray := hl.at fun o e => hk l o (off hlI hlD hlC) e
  have hl2' : h'.IsList l2 vs2.toArray := hl2.at fun o e => hk l2 o (off hl2I hl2D hl2C) e
  have hc' : h'.IsCell c (some (.ref l2)) := isCell_ext hc (off hcI hcD hcC) hk
  by_cases hlt : i < ws.length
  · obtain ⟨tu, hv⟩ := strs_item hS hlt
    have hu := hws _ (List.getElem_mem hlt)
    refine wpAny_pyNext_list_item hit' hl' (x := .str (S ws[i]) tu) (by simpa using hv) fun h₁ hit₁ hs₁ => ?_
    replace hs₁ : Heap.SameBut I h' h₁ := hs₁
    dsimp only
    refine wpAny_assign_Name (wpAny_storeName_local J.first (hn'.extBut hs₁.extBut (Ne.symm hIC)) (fun h₂ hn₂ hs₂ => ?_) J.plain)
    replace hs₂ : Heap.SameBut cenv.locals h₁ h₂ := hs₂
    dsimp only
    have up : ∀ b o, b ≠ I → b ≠ cenv.locals → h'.get? b = some o → h₂.get? b = some o := fun b o h1 h2 e => hs₂.extBut _ _ h2 (hs₁.extBut _ _ h1 e)
    have hc₂ : h₂.IsCell c (some (.ref l2)) := let ⟨o, ho, hd⟩ := hc'; ⟨o, up _ _ hcI hcC ho, hd⟩
    have hl2₂ : h₂.IsList l2 vs2.toArray := hl2'.at fun o e => up l2 o hl2I hl2C e
    refine wpAny_Name (wpAny_loadName_cell J.fn J.last J.cell hc₂ ?_)
    refine wpAny_pyIter_list hl2₂ ?_
    have hL : ∀ b, (∃ o, h₂.get? b = some o) → b ≠ h₂.objs.size := fun b ⟨o, e⟩ => Nat.ne_of_lt (Heap.lt_size e)
    have hit₃ : (h₂.push { cls := .type "list_iterator", data := .fields #[.ref l2, .int 0 0] }).IsListIter h₂.objs.size l2 0 := ⟨_, Heap.get?_push_size _ rfl, rfl, rfl⟩
    have hD₂ := up D _ (Ne.symm hID) hDC hD'
    obtain ⟨ol2, hol2, _⟩ := id hl2₂
    obtain ⟨oC, _, _, hoC, _⟩ := id hn₂
    have hsz' := strs_size hys'
    rw [joined_length, List.length_take, Nat.min_eq_left hi] at hsz'
    have hsz2 : i * us.length + us.length ≤ 1000000 := by
      have : (i + 1) * us.length ≤ ws.length * us.length := Nat.mul_le_mul_right _ hlt
      rw [Nat.succ_mul] at this; omega
    have inner := inner_loop (prog := prog) (w := w) (A := A) (i0 := i0) (scope := scope) (pos := pos) (p0 := p0) (p1 := p1) (pa := pa) (pb := pb) (pl := pl) (pe := pe) (c := c) (s := ⟨h₂.push { cls := .type "list_iterator", data := .fields #[.ref l2, .int 0 0] }, s.gens, s.drawn, tk + 1, s.os⟩) (x := ws[i]) (t := tu) (m2 := m2)
      (R := fun r s₅ => r = .ok .next ∧ ∃ m, m < ws.length + 1 - i ∧ ∃ h' tk i ys' n' m1 m2, s₅ = { s with heap := h', toks := tk } ∧ m = ws.length + 1 - i ∧ i ≤ ws.length ∧ h'.IsListIter I l i ∧ h'.get? D = some (lobj ys' n') ∧
        StrsAre ys'.toList ((joined (ws.take i) us).map S) ∧
        h'.Ns cenv.locals (fun y => if y = PySem.Str.ofString "first" then m1 else if y = PySem.Str.ofString "second" then m2 else none) ∧
        (∀ b o, b ∉ [I, D, cenv.locals] → s.heap.get? b = some o → h'.get? b = some o))
      hA J hit₃ (hl2₂.at fun o e => Heap.get?_push_of_some _ e) hS2 (Heap.get?_push_of_some _ hD₂) hys'
      (ns_congr (hn₂.push _) (funext fun y => by
        by_cases h1 : y = PySem.Str.ofString "first"
        · rw [if_pos h1, if_pos h1]
        · rw [if_neg h1, if_neg h1, if_neg h1]))
      (Ne.symm (hL D ⟨_, hD₂⟩)) (Ne.symm (hL _ ⟨_, hoC⟩)) hDC (hL l2 ⟨_, hol2⟩) hl2D hl2C hu hus (by rw [joined_length, List.length_take, Nat.min_eq_left hi]; exact hsz2)
      (fun h₄ tk₄ ys₄ n₄ m₄ hD₄ hys₄ hn₄ hk₄ => by
        have up₄ : ∀ b o, b ≠ D → b ≠ cenv.locals → h₂.get? b = some o → h₄.get? b = some o := fun b o h1 h2 e =>
          hk₄ b o (by simp [h1, h2, hL b ⟨o, e⟩]) (Heap.get?_push_of_some _ e)
        refine ⟨rfl, ws.length + 1 - (i + 1), by omega, h₄, tk₄, i + 1, ys₄, n₄, some (.str (S ws[i]) tu), m₄, rfl, rfl, hlt, ?_, hD₄, ?_, hn₄, fun b o hb e => ?_⟩
        · obtain ⟨oi, hoi, r⟩ := hit₁
          exact ⟨oi, up₄ _ _ hID hIC (hs₂.extBut _ _ hIC hoi), r⟩
        · rw [List.take_succ_eq_append_getElem hlt, joined_snoc]; exact hys₄
        · simp only [List.mem_cons, List.not_mem_nil, or_false, not_or] at hb
          exact up₄ _ _ hb.2.1 hb.2.2 (up _ _ hb.1 hb.2.2 (hk b o (by simp [hb]) e)))
    exact start_any rfl inner (wpAny_pyIter_listiter hit₃ inner)
  · have hi' : i = ws.length := by omega
    subst hi'
    refine wpAny_pyNext_list_end hA hit' hl' (by simp; omega) fun h₁ hs₁ => ?_
    replace hs₁ : Heap.ExtBut I h' h₁ := hs₁
    refine hR h₁ tk ys' n' _ (hs₁ _ _ (Ne.symm hID) hD') (by simpa using hys') (hn'.extBut hs₁ (Ne.symm hIC)) fun b o hb e => ?_
    simp only [List.mem_cons, List.not_mem_nil, or_false, not_or] at hb
    exact hs₁ _ _ hb.1 (hk b o (by simp [hb]) e)
end
end Mine
end

section
open PySem PySem.W PyProof.Rows
set_option Elab.async false
set_option maxRecDepth 100000
namespace Mine
section
variable {prog : Program} {w : World} {A : Around} {R : Result → Shared → Prop} {s : Shared} {i0 i1 elt c : Expr} {scope : Scope} {pos p0 p1 : Pos} {x0 x1 : PySem.Str} {cenv : Env} {I D l : Addr} {vs : Array Value} {B : Heap}
/-- the pieces of a comprehension that keeps nothing -/
def TestNo (prog : Program) (w : World) (A : Around) (B : Heap) (c : Expr) (cenv : Env) (x0 x1 : PySem.Str) (V : Nat → Value → Prop) (n : Nat) : Prop :=
  ∀ i t v s₃ m₃, i < n → V i v → s₃.heap.Ns cenv.locals m₃ → m₃ x0 = some (.int (i : Int) t) → m₃ x1 = some v → (∀ b o, B.get? b = some o → s₃.heap.get? b = some o) →
    wpAny (model prog w) A (isTrue c cenv (eval c cenv)) (fun ok s₄ => ok = false ∧ Keeps s₃ s₄) (fun _ _ => False) s₃
def SliceTo (prog : Program) (w : World) (A : Around) (B : Heap) (i1 : Expr) (cenv : Env) (x0 : PySem.Str) (V : Nat → Value → Prop) (n : Nat) : Prop :=
  ∀ i t s₃ m₃, i < n → s₃.heap.Ns cenv.locals m₃ → m₃ x0 = some (.int (i : Int) t) → (∀ b o, B.get? b = some o → s₃.heap.get? b = some o) →
    wpAny (model prog w) A (eval i1 cenv) (fun xv s₄ => ∃ l vs, xv = .ref l ∧ s₄.heap.IsList l vs ∧ vs.size ≤ 1000 ∧ s₃.heap.get? l = none ∧ (∀ (j : Nat) (v : Value), vs[j]? = some v → V i v) ∧ Keeps s₃ s₄) (fun _ _ => False) s₃
theorem none_inner {I2 : Addr} {i n : Nat} {ti : Tok} {V : Nat → Value → Prop} {m : PySem.Str → Option Value} (hA : A.handled = none) (hfn : cenv.scope.kind = .function) (hx1 : cenv.kindOf x1 = some .local) (hne : x0 ≠ x1)
    (hit : s.heap.IsListIter I2 l 0) (hl : s.heap.IsList l vs) (hV : ∀ (j : Nat) (v : Value), vs[j]? = some v → V i v) (hi : i < n) (hn : s.heap.Ns cenv.locals m) (hm : m x0 = some (.int (i : Int) ti))
    (hB : ∀ b o, B.get? b = some o → s.heap.get? b = some o) (hBI : B.get? I2 = none) (hBC : B.get? cenv.locals = none) (hIC : I2 ≠ cenv.locals) (hlI : l ≠ I2) (hlC : l ≠ cenv.locals)
    (ht : TestNo prog w A B c cenv x0 x1 V n)
    (hR : ∀ h' tk m', h'.Ns cenv.locals m' → (∀ b o, b ≠ I2 → b ≠ cenv.locals → s.heap.get? b = some o → h'.get? b = some o) → R (.ok .next) { s with heap := h', toks := tk }) :
    codeAny (model prog w) A (.compLoop (two elt (.Name x0 p0) i0 (.Name x1 p1) i1 [c] scope pos) 1 (.ref I2) (.ref D) cenv) R s := by
  have hpl : (cenv.scope.kind == .class || (cenv.scope.kind == .module && cenv.locals != cenv.globals)) = false := by rw [hfn]; rfl
  refine loop_inner (fun k s' => ∃ h' tk j m', s' = { s with heap := h', toks := tk } ∧ k = vs.size + 1 - j ∧ j ≤ vs.size ∧ h'.IsListIter I2 l j ∧ h'.Ns cenv.locals m' ∧ m' x0 = some (.int (i : Int) ti) ∧
      (∀ b o, b ≠ I2 → b ≠ cenv.locals → s.heap.get? b = some o → h'.get? b = some o)) ?_ (vs.size + 1)
    ⟨s.heap, s.toks, 0, m, rfl, rfl, Nat.zero_le _, hit, hn, hm, fun _ _ _ _ e => e⟩
  rintro k s' ⟨h', tk, j, m', rfl, rfl, hj, hit', hn', hm', hk⟩
  have hl' : h'.IsList l vs := hl.at fun o e => hk l o hlI hlC e
  by_cases hlt : j < vs.size
  · refine wpAny_pyNext_list_item hit' hl' (x := vs[j]) (by simp [hlt]) fun h₁ hit₁ hs₁ => ?_
    replace hs₁ : Heap.SameBut I2 h' h₁ := hs₁
    dsimp only
    refine wpAny_assign_Name (wpAny_storeName_local hx1 (hn'.extBut hs₁.extBut (Ne.symm hIC)) (fun h₂ hn₂ hs₂ => ?_) hpl)
    replace hs₂ : Heap.SameBut cenv.locals h₁ h₂ := hs₂
    dsimp only
    have up : ∀ b o, b ≠ I2 → b ≠ cenv.locals → s.heap.get? b = some o → h₂.get? b = some o := fun b o h1 h2 e => hs₂.extBut _ _ h2 (hs₁.extBut _ _ h1 (hk b o h1 h2 e))
    refine wpAny_tests_one (wpAny_mono (ht i ti vs[j] _ _ hi (hV j _ (by simp [hlt])) hn₂ (by rw [if_neg hne]; exact hm') (by rw [if_pos rfl]) (fun b o e => up b o (fun q => by rw [q, hBI] at e; cases e) (fun q => by rw [q, hBC] at e; cases e) (hB b o e))) (fun ok s₄ h₄ => ?_) fun _ _ e => e)
    obtain ⟨rfl, h₃, tk₃, rfl, hk₃⟩ := h₄
    rw [if_neg (by decide)]
    refine ⟨vs.size + 1 - (j + 1), by omega, h₃, tk₃, j + 1, _, rfl, rfl, hlt, (hit₁.extBut hs₂.extBut hIC).at fun o e => hk₃ _ o e, hn₂.keeps hk₃, by rw [if_neg hne]; exact hm', fun b o h1 h2 e => hk₃ b o (up b o h1 h2 e)⟩
  · have hj' : j = vs.size := by omega
    subst hj'
    refine wpAny_pyNext_list_end hA hit' hl' (by simp) fun h₁ hs₁ => ?_
    replace hs₁ : Heap.ExtBut I2 h' h₁ := hs₁
    exact hR h₁ tk m' (hn'.extBut hs₁ (Ne.symm hIC)) fun b o h1 h2 e => hs₁ _ _ h1 (hk b o h1 h2 e)
theorem none_outer {n : Nat} {V : Nat → Value → Prop} {m : PySem.Str → Option Value} (hA : A.handled = none) (hfn : cenv.scope.kind = .function) (hx0 : cenv.kindOf x0 = some .local) (hx1 : cenv.kindOf x1 = some .local) (hne : x0 ≠ x1)
    (hit : IsRangeIter s.heap I 0 (n : Int) 1) (hn : s.heap.Ns cenv.locals m) (hB : ∀ b o, B.get? b = some o → s.heap.get? b = some o) (hBI : B.get? I = none) (hBC : B.get? cenv.locals = none) (hBD : B.get? D = none) (hIC : I ≠ cenv.locals) (hID : I ≠ D) (hDC : D ≠ cenv.locals)
    (hs1 : ∀ x, foldedSetIterable i1 cenv x = pure x) (hD : s.heap.get? D = some (lobj #[] 0)) (ht : TestNo prog w A B c cenv x0 x1 V n) (hsl : SliceTo prog w A B i1 cenv x0 V n)
    (hR : ∀ h' tk m', h'.Ns cenv.locals m' → h'.get? D = some (lobj #[] 0) → (∀ b o, B.get? b = some o → h'.get? b = some o) → R (.ok .next) { s with heap := h', toks := tk }) :
    codeAny (model prog w) A (.compLoop (two elt (.Name x0 p0) i0 (.Name x1 p1) i1 [c] scope pos) 0 (.ref I) (.ref D) cenv) R s := by
  have hpl : (cenv.scope.kind == .class || (cenv.scope.kind == .module && cenv.locals != cenv.globals)) = false := by rw [hfn]; rfl
  refine loop_outer (fun k s' => ∃ h' tk i m', s' = { s with heap := h', toks := tk } ∧ k = n + 1 - i ∧ i ≤ n ∧ IsRangeIter h' I (i : Int) ((n : Int) - (i : Int)) 1 ∧ h'.get? D = some (lobj #[] 0) ∧ h'.Ns cenv.locals m' ∧
      (∀ b o, B.get? b = some o → h'.get? b = some o)) ?_ (n + 1)
    ⟨s.heap, s.toks, 0, m, rfl, rfl, Nat.zero_le _, by simpa using hit, hD, hn, hB⟩ (hs := hs1)
  rintro k s' ⟨h', tk, i, m', rfl, rfl, hi, hit', hD', hn', hB'⟩
  by_cases hlt : i < n
  · refine wpAny_pyNext_range_item hit' (by omega) fun h₁ hit₁ hs₁ => ?_
    replace hs₁ : Heap.SameBut I h' h₁ := hs₁
    dsimp only
    refine wpAny_assign_Name (wpAny_storeName_local hx0 (hn'.extBut hs₁.extBut (Ne.symm hIC)) (fun h₂ hn₂ hs₂ => ?_) hpl)
    replace hs₂ : Heap.SameBut cenv.locals h₁ h₂ := hs₂
    dsimp only
    have up : ∀ b o, b ≠ I → b ≠ cenv.locals → h'.get? b = some o → h₂.get? b = some o := fun b o h1 h2 e => hs₂.extBut _ _ h2 (hs₁.extBut _ _ h1 e)
    have hB₂ : ∀ b o, B.get? b = some o → h₂.get? b = some o := fun b o e => up b o (fun q => by rw [q, hBI] at e; cases e) (fun q => by rw [q, hBC] at e; cases e) (hB' b o e)
    have hD₂ := up D _ (Ne.symm hID) hDC hD'
    have hI₂ : IsRangeIter h₂ I ((i : Int) + 1) ((n : Int) - (i : Int) - 1) 1 := hs₂.extBut _ _ hIC hit₁
    refine wpAny_mono (hsl i _ _ _ hlt hn₂ (by rw [if_pos rfl]) hB₂) (fun xv s₃ h₃ => ?_) fun _ _ e => e
    obtain ⟨l, vs, rfl, hl, hvs, hlnone, hV, h₃, tk₃, rfl, hk₃⟩ := h₃
    dsimp only at hl hlnone
    refine wpAny_pyIter_list hl ?_
    obtain ⟨ol, hol, hol2⟩ := id hl
    have hn₃ := hn₂.keeps hk₃
    obtain ⟨oC, _, _, hoC, _⟩ := id hn₃
    have hL : ∀ b, (∃ o, h₃.get? b = some o) → b ≠ h₃.objs.size := fun b ⟨o, e⟩ => Nat.ne_of_lt (Heap.lt_size e)
    have hit₃ : (h₃.push { cls := .type "list_iterator", data := .fields #[.ref l, .int 0 0] }).IsListIter h₃.objs.size l 0 := ⟨_, Heap.get?_push_size _ rfl, rfl, rfl⟩
    have hlC : l ≠ cenv.locals := fun q => by
      obtain ⟨o, _, _, ho, _⟩ := id hn₂
      rw [q] at hlnone
      rw [ho] at hlnone
      cases hlnone
    have hBl : B.get? h₃.objs.size = none := by
      cases q : B.get? h₃.objs.size with
      | none => rfl
      | some o => exact absurd (Heap.lt_size (hk₃ _ _ (hB₂ _ _ q))) (Nat.lt_irrefl _)
    have inner := none_inner (prog := prog) (w := w) (A := A) (i0 := i0) (i1 := i1) (elt := elt) (c := c) (scope := scope) (pos := pos) (p0 := p0) (p1 := p1) (x0 := x0) (x1 := x1) (D := D) (B := B) (s := ⟨h₃.push { cls := .type "list_iterator", data := .fields #[.ref l, .int 0 0] }, s.gens, s.drawn, tk₃, s.os⟩)
      (R := fun r s₅ => r = .ok .next ∧ ∃ m, m < n + 1 - i ∧ ∃ h' tk i m', s₅ = { s with heap := h', toks := tk } ∧ m = n + 1 - i ∧ i ≤ n ∧ IsRangeIter h' I (i : Int) ((n : Int) - (i : Int)) 1 ∧ h'.get? D = some (lobj #[] 0) ∧ h'.Ns cenv.locals m' ∧
        (∀ b o, B.get? b = some o → h'.get? b = some o))
      hA hfn hx1 hne hit₃ (hl.at fun o e => Heap.get?_push_of_some _ e) hV hlt (hn₃.push _) (by rw [if_pos rfl]) (fun b o e => Heap.get?_push_of_some _ (hk₃ _ _ (hB₂ b o e))) hBl hBC (Ne.symm (hL _ ⟨_, hoC⟩)) (hL l ⟨_, hol⟩) hlC ht
      (fun h₄ tk₄ m₄ hn₄ hk₄ => by
        have up₄ : ∀ b o, b ≠ cenv.locals → h₂.get? b = some o → h₄.get? b = some o := fun b o h2 e =>
          hk₄ b o (hL b ⟨o, hk₃ _ _ e⟩) h2 (Heap.get?_push_of_some _ (hk₃ _ _ e))
        refine ⟨rfl, n + 1 - (i + 1), by omega, h₄, tk₄, i + 1, m₄, rfl, rfl, hlt, ?_, up₄ _ _ hDC hD₂, hn₄, fun b o e => up₄ b o (fun q => by rw [q, hBC] at e; cases e) (hB₂ b o e)⟩
        have := up₄ _ _ hIC hI₂
        rw [show ((i + 1 : Nat) : Int) = (i : Int) + 1 by omega, show (n : Int) - ((i : Int) + 1) = (n : Int) - (i : Int) - 1 by omega]
        exact this)
    exact start_any rfl inner (wpAny_pyIter_listiter hit₃ inner)
  · have hi' : i = n := by omega
    subst hi'
    refine wpAny_pyNext_range_end hA hit' (by omega) fun h₁ hs₁ => ?_
    replace hs₁ : Heap.ExtBut I h' h₁ := hs₁
    exact hR h₁ tk m' (hn'.extBut hs₁ (Ne.symm hIC)) (hs₁ _ _ (Ne.symm hID) hD') fun b o e => hs₁ b o (fun q => by rw [q, hBI] at e; cases e) (hB' b o e)
theorem comp_none {env : Env} {cl : List (PySem.Str × Addr)} {Q E : Value → Shared → Prop} (hclos : closureFor scope env = pure cl) (hcell : ∀ y ∈ scope.names, y.2 ≠ .cell) (hkind : scope.kind = .function)
    (hnames : ∀ y ∈ scope.names, y.2 = .local → scope.names.lookup y.1 = some .local) (hx0 : scope.names.lookup x0 = some .local) (hx1 : scope.names.lookup x1 = some .local) (hne : x0 ≠ x1) (hA : A.handled = none) (hs1 : ∀ C x, foldedSetIterable i1 (compEnvC scope cl C env) x = pure x)
    (h : wpAny (model prog w) A (eval i0 env) (fun xv s₁ => ∃ (r : Addr) (n : Nat) (t u v : Tok) (V : Nat → Value → Prop), xv = .ref r ∧ IsRange s₁.heap r 0 (n : Int) 1 t u v ∧ Builtin.Range.small 0 (n : Int) 1 = true ∧ Builtin.Range.rangeSize 0 (n : Int) 1 = (n : Int) ∧
       (∀ C, TestNo prog w A s₁.heap c (compEnvC scope cl C env) x0 x1 V n) ∧ (∀ C, SliceTo prog w A s₁.heap i1 (compEnvC scope cl C env) x0 V n) ∧
       (∀ D h' tk, s₁.heap.get? D = none → (∀ b o, s₁.heap.get? b = some o → h'.get? b = some o) → h'.get? D = some (lobj #[] 0) → Q (.ref D) { s₁ with heap := h', toks := tk })) E s)
    (hs : ∀ x, foldedSetIterable i0 env x = pure x := by intro _; rfl) :
    wpAny (model prog w) A (eval (two elt (.Name x0 p0) i0 (.Name x1 p1) i1 [c] scope pos) env) Q E s := by
  refine comp_two hclos hcell hkind hnames (wpAny_mono h (fun xv s₁ h₁ => ?_) fun _ _ e => e) hs
  obtain ⟨r, n, t, u, v, V, rfl, hr, hsm, hsz, ht, hsl, hQ⟩ := h₁
  refine wpAny_pyIter_range hr hsm ?_
  intro h₂ tk₂ D C hD hC hk₂ hD₂ hn₂
  dsimp only at hk₂ hD hC ⊢
  rw [Heap.size_push] at hD hC
  have hI₁ : (s₁.heap.push { cls := .type "range_iterator", data := .fields #[rawInt 0, rawInt (Builtin.Range.rangeSize 0 (n : Int) 1), rawInt 1] }).get? s₁.heap.objs.size = some { cls := .type "range_iterator", data := .fields #[rawInt 0, rawInt (Builtin.Range.rangeSize 0 (n : Int) 1), rawInt 1] } := Heap.get?_push_size _ rfl
  have hI₂ := hk₂ _ _ hI₁
  rw [hsz] at hI₂
  have hB : ∀ b o, s₁.heap.get? b = some o → h₂.get? b = some o := fun b o e => hk₂ _ _ (Heap.get?_push_of_some _ e)
  have fresh : ∀ a, s₁.heap.objs.size ≤ a → s₁.heap.get? a = none := fun a ha => by
    cases e : s₁.heap.get? a with
    | none => rfl
    | some o' => exact absurd (Heap.lt_size e) (Nat.not_lt.mpr ha)
  have hDn := fresh D (by rw [hD]; exact Nat.le_succ _)
  refine ⟨wpAny_pyIter_rangeiter hI₂ ⟨rfl, rfl⟩, ?_⟩
  refine none_outer (cenv := compEnvC scope cl C env) (B := s₁.heap) (n := n) (V := V) hA (by simp [compEnvC, relabel, hkind]) (lookup_relabel_local hx0) (lookup_relabel_local hx1) hne hI₂ hn₂ hB (fresh _ (Nat.le_refl _)) (fresh _ (by show s₁.heap.objs.size ≤ C; rw [hC]; exact Nat.le_add_right _ 2)) hDn
    (by show s₁.heap.objs.size ≠ C; rw [hC]; exact Nat.ne_of_lt (Nat.lt_succ_of_lt (Nat.lt_succ_self _))) (by rw [hD]; exact Nat.ne_of_lt (Nat.lt_succ_self _)) (by show D ≠ C; rw [hD, hC]; exact Nat.ne_of_lt (Nat.lt_succ_self _)) (hs1 C) hD₂ (ht C) (hsl C) ?_
  intro h' tk m' hn' hD' hB'
  refine ⟨rfl, m', hn', fun h₃ hs₃ => ?_⟩
  have hCn : s₁.heap.get? C = none := fresh C (by rw [hC]; exact Nat.le_add_right _ 2)
  exact hQ D h₃ tk hDn (fun b o e => hs₃.extBut _ _ (fun q => by have q : b = C := q; rw [q, hCn] at e; cases e) (hB' b o e)) (hs₃.extBut _ _ (by show D ≠ C; rw [hD, hC]; exact Nat.ne_of_lt (Nat.lt_succ_self _)) hD')
end
end Mine
end

section
open PySem PySem.Sre
set_option Elab.async false
namespace Mine
def csCode : Array Nat := #[14, 10, 4, 1, 1, 16, 45, 22, 91, 94, 0, 13, 7, 16, 45, 22, 91, 94, 0, 1]
def isMark (c : Nat) : Bool := c == 45 || (decide (91 ≤ c) && decide (c ≤ 94))
theorem inSet_cs (i c : Nat) (hi : i = 5 ∨ i = 13) (seen : Seen) : ∃ seen', inSet csCode c 20 i true seen = .ok (isMark c, seen') := by
  have h45 : (c == 45) = true ∨ (c == 45) = false := by cases c == 45 <;> simp
  rcases hi with rfl | rfl <;> rcases h45 with h | h
  all_goals (unfold inSet; simp [csCode, ops, h, isMark])
  all_goals (unfold inSet; simp [ops])
  all_goals (by_cases h2 : 91 ≤ c ∧ c ≤ 94)
  all_goals simp [h2]
  all_goals (unfold inSet; simp [ops])
  all_goals omega
theorem admitted_none (m : M) (hc : m.code = csCode) : ∀ (fuel s : Nat) (seen : Seen), (∀ i, s ≤ i → i < m.lim → isMark (m.text.getD i 0) = false) → ∃ seen', m.admitted fuel s seen = .ok (none, seen')
  | 0, s, seen, _ => ⟨seen, rfl⟩
  | fuel + 1, s, seen, h => by
    unfold M.admitted
    by_cases hs : s ≥ m.lim
    · exact ⟨seen, by rw [if_pos hs]⟩
    · rw [if_neg hs, hc]
      obtain ⟨s2, e⟩ := inSet_cs 5 (m.text.getD s 0) (.inl rfl) seen
      rw [show csCode.size = 20 from rfl, e, h s (Nat.le_refl _) (Nat.lt_of_not_le hs)]
      exact admitted_none m hc fuel (s + 1) s2 fun i hi => h i (by omega)
theorem admitted_some (m : M) (hc : m.code = csCode) {j : Nat} (hj : j < m.lim) (hm : isMark (m.text.getD j 0) = true) : ∀ (fuel s : Nat) (seen : Seen), s ≤ j → j < s + fuel → (∀ i, s ≤ i → i < j → isMark (m.text.getD i 0) = false) → ∃ seen', m.admitted fuel s seen = .ok (some j, seen')
  | 0, s, seen, h1, h2, _ => by omega
  | fuel + 1, s, seen, h1, h2, h => by
    unfold M.admitted
    rw [if_neg (by omega), hc]
    obtain ⟨s2, e⟩ := inSet_cs 5 (m.text.getD s 0) (.inl rfl) seen
    rw [show csCode.size = 20 from rfl, e]
    by_cases hs : s = j
    · subst hs
      rw [hm]
      exact ⟨s2, rfl⟩
    · rw [h s (Nat.le_refl _) (by omega)]
      exact admitted_some m hc hj hm fuel (s + 1) s2 (by omega) (by omega) fun i hi => h i (by omega)
/-- the four steps of a match -/
theorem run4 (m : M) (s : Nat) (hcode : m.code = csCode) (hpc : m.pc = 11) (ho : m.outcome = none) (ha : m.answer = none) (hf : m.frames = []) (hw : m.wholeText = false) (hma : m.mustAdvance = false) (hwt : m.weight = 0) (hpos : s < m.lim) (hmk : isMark (m.text.getD s 0) = true) :
    ∃ m', (m.attemptAt s true).runFor 4 = m' ∧ m'.outcome = some .matched ∧ m'.start = s ∧ m'.handed = s + 1 := by
  obtain ⟨code, text, lim, start, lastStart, whole, must, pc, pos, handed, outermost, marks, lastmark, lastindex, loops, inner, frames, weight, answer, seen, outcome⟩ := m
  simp only at hcode hpc ho ha hf hw hma hwt hpos hmk
  subst hcode hpc ho ha hf hw hma hwt
  obtain ⟨s2, e⟩ := inSet_cs 13 (text.getD s 0) (.inr rfl) (seen.add 13)
  rw [hmk] at e
  have e2 : accepts csCode 11 (text.getD s 0) (seen.add 13) = .ok (true, s2) := by
    rw [← e]; rfl
  have e1 : M.step { code := csCode, text := text, lim := lim, start := s, lastStart := lastStart, pc := 11, pos := s, handed := s, marks := marks, loops := loops, inner := inner, frames := [{ wait := Wait.nextStart, pc := 11, pos := s, outermost := true }], weight := 1, seen := seen } =
      { code := csCode, text := text, lim := lim, start := s, lastStart := lastStart, pc := 19, pos := s + 1, handed := s, marks := marks, loops := loops, inner := inner, frames := [{ wait := Wait.nextStart, pc := 11, pos := s, outermost := true }], weight := 1, seen := s2 } := by
    show (if s ≥ lim then _ else match accepts csCode 11 (text.getD s 0) (seen.add 13) with
      | .error why => _
      | .ok (false, sn) => _
      | .ok (true, sn) => ({ code := csCode, text := text, lim := lim, start := s, lastStart := lastStart, pc := 11 + itemWidth csCode 11, pos := s + 1, handed := s, marks := marks, loops := loops, inner := inner, frames := [{ wait := Wait.nextStart, pc := 11, pos := s, outermost := true }], weight := 1, seen := sn } : M)) = _
    rw [if_neg (by omega), e2]
    rfl
  refine ⟨_, rfl, ?_⟩
  show ((M.runFor 3 (M.step _)).outcome = _ ∧ (M.runFor 3 (M.step _)).start = _ ∧ (M.runFor 3 (M.step _)).handed = _)
  rw [show M.step (M.attemptAt ⟨csCode, text, lim, start, lastStart, false, false, 11, pos, handed, outermost, marks, lastmark, lastindex, loops, inner, [], 0, none, seen, none⟩ s true) = _ from e1]
  exact ⟨rfl, rfl, rfl⟩
def csM (text : Array Nat) (b : Nat) : M := { code := csCode, text := text, lim := text.size, start := b, lastStart := text.size, pc := 11, pos := b, handed := b, marks := Array.replicate 0 none, seen := ({} : Seen).add 14 }
theorem search_eq (text : Array Nat) (b : Nat) : forSearch csCode text 0 b text.size false = (if (decide (b > text.size) || decide (text.size - b < 1)) = true then ({ csM text b with lastStart := 0 } : M).say false else (csM text b).attemptFrom b true) := rfl
theorem attempt_eq (text : Array Nat) (b : Nat) : (csM text b).attemptFrom b true = (match M.admitted (csM text b) (text.size + 1 - b) b (csM text b).seen with
  | .ok (some s, seen) => ({ csM text b with mustAdvance := false, seen := seen } : M).attemptAt s true
  | .ok (none, seen) => ({ csM text b with seen := seen } : M).say false
  | .error why => (csM text b).stick why) := rfl
/-- searching on from a place: the first sign that is marked -/
theorem search_some {text : Array Nat} {b j : Nat} (h0 : b ≤ j) (hj : j < text.size) (hm : isMark (text.getD j 0) = true) (hn : ∀ i, b ≤ i → i < j → isMark (text.getD i 0) = false) :
    ∃ m', (forSearch csCode text 0 b text.size false).runFor 4 = m' ∧ m'.outcome = some .matched ∧ m'.start = j ∧ m'.handed = j + 1 := by
  rw [search_eq, if_neg (by simp; omega), attempt_eq]
  obtain ⟨s2, e⟩ := admitted_some (csM text b) rfl hj hm (text.size + 1 - b) b (csM text b).seen h0 (by omega) hn
  rw [e]
  exact run4 { csM text b with mustAdvance := false, seen := s2 } j rfl rfl rfl rfl rfl rfl rfl rfl hj hm
theorem search_none {text : Array Nat} {b : Nat} (hn : ∀ i, b ≤ i → i < text.size → isMark (text.getD i 0) = false) :
    ∃ m', (forSearch csCode text 0 b text.size false).runFor 4 = m' ∧ m'.outcome = some .failed := by
  rw [search_eq]
  by_cases hb : (decide (b > text.size) || decide (text.size - b < 1)) = true
  · rw [if_pos hb]
    exact ⟨_, rfl, rfl⟩
  · rw [if_neg hb, attempt_eq]
    obtain ⟨s2, e⟩ := admitted_none (csM text b) rfl (text.size + 1 - b) b (csM text b).seen hn
    rw [e]
    exact ⟨_, rfl, rfl⟩
section
open PySem.Builtin.Re
variable {M : Model} {A : Around} {E : Value → Shared → Prop} {s : Shared}
theorem wpAny_rules {c : Nat → Bool} {f : Nat → String} : ∀ (l : List Nat) {Q : PUnit → Shared → Prop}, Q ⟨⟩ s → wpAny M A (forIn l PUnit.unit fun i r => do
    if c i then rule (f i)
    pure (ForInStep.yield PUnit.unit)) Q E s
  | [], Q, h => by
    simp only [List.forIn_nil]
    exact wpAny_pure h
  | i :: l, Q, h => by
    simp only [List.forIn_cons]
    refine wpAny_bind ?_
    cases c i with
    | true => exact wpAny_bind (wpAny_rule (wpAny_pure (wpAny_rules l h)))
    | false => exact wpAny_pure (wpAny_rules l h)
theorem reDrive_four {m m' : Sre.M} {Q : Sre.M → Shared → Prop} (h : m.runFor 4 = m') (ho : m'.outcome.isSome = true) (hQ : Q m' s) : wpAny M A (reDrive (2 ^ 64) m) Q E s := by
  subst h
  show wpAny M A (reDrive ((2 ^ 64 - 1) + 1) m) Q E s
  rw [reDrive]
  simp only [reTurnSteps, ho, if_true]
  exact wpAny_pure hQ
theorem reRun_matched {m m' : Sre.M} {Q : Option Sre.M → Shared → Prop} (h : m.runFor 4 = m') (ho : m'.outcome = some .matched) (hQ : Q (some m') s) : wpAny M A (reRunToEnd m) Q E s := by
  unfold reRunToEnd
  refine wpAny_bind (reDrive_four h (by rw [ho]; rfl) ?_)
  refine wpAny_bind (wpAny_rules _ ?_)
  rw [ho]
  exact wpAny_pure hQ
theorem reRun_failed {m m' : Sre.M} {Q : Option Sre.M → Shared → Prop} (h : m.runFor 4 = m') (ho : m'.outcome = some .failed) (hQ : Q none s) : wpAny M A (reRunToEnd m) Q E s := by
  unfold reRunToEnd
  refine wpAny_bind (reDrive_four h (by rw [ho]; rfl) ?_)
  refine wpAny_bind (wpAny_rules _ ?_)
  rw [ho]
  exact wpAny_pure hQ
end
end Mine
end

section
open PySem PySem.Builtin.Re
set_option Elab.async false
namespace Mine
theorem plain_sub_loop : plainId "re.Pattern.sub.loop" = true := by decide +kernel
theorem entry_sub_loop : entryFor table "re.Pattern.sub.loop" = some Builtin.«re.Pattern.sub.loop» := entryFor_of_fast (by kernel_rfl)
theorem entry_sub : entryFor table "re.Pattern.sub" = some Builtin.«re.Pattern.sub» := entryFor_of_fast (by kernel_rfl)
theorem slot_sub : Slot "re.Pattern" "sub" "re.Pattern.sub" :=
  .of (owner := "re.Pattern") (n := "sub") (by rw [typeLookup_type, builtinLookup_eq_fast]; kernel_rfl) (by decide +kernel) (by decide +kernel) (by decide +kernel)
    (by first | exact .inl (by decide +kernel) | exact .inr (by decide +kernel)) (by rw [isSubtype_type]; kernel_rfl)
theorem args_sub (a b c : Value) : argsOk "re.Pattern.sub" ⟨[a, b, c], []⟩ := by
  unfold argsOk; kernel_rfl
theorem entry_group : entryFor table "re.Match.group" = some Builtin.«re.Match.group» := entryFor_of_fast (by kernel_rfl)
theorem slot_group : Slot "re.Match" "group" "re.Match.group" :=
  .of (owner := "re.Match") (n := "group") (by rw [typeLookup_type, builtinLookup_eq_fast]; kernel_rfl) (by decide +kernel) (by decide +kernel) (by decide +kernel)
    (by first | exact .inl (by decide +kernel) | exact .inr (by decide +kernel)) (by rw [isSubtype_type]; kernel_rfl)
theorem args_group (a : Value) : argsOk "re.Match.group" ⟨[a], []⟩ := by
  unfold argsOk; kernel_rfl
end Mine
end

section
open PySem PySem.W PyProof.Rows
set_option Elab.async false
namespace Mine

/-- the longest common beginning -/
def lcp : List Nat → List Nat → List Nat
  | a :: r, b :: t => if a = b then a :: lcp r t else []
  | _, _ => []
theorem lcp_take {a b : List Nat} : ∀ {i : Nat}, a.take i = b.take i → i < a.length → i < b.length → a[i]? ≠ b[i]? → lcp a b = a.take i := by
  induction a generalizing b with
  | nil => intro i _ h; simp at h
  | cons x r ih =>
    intro i he ha hb hne
    cases b with
    | nil => simp at hb
    | cons y t =>
      cases i with
      | zero =>
        have : x ≠ y := by simpa using hne
        simp [lcp, this]
      | succ i =>
        simp only [List.take_succ_cons, List.cons.injEq] at he
        have := ih he.2 (by simpa using ha) (by simpa using hb) (by simpa using hne)
        simp [lcp, he.1, this]
theorem lcp_all {a b : List Nat} (h : b.take a.length = a) : lcp a b = a := by
  induction a generalizing b with
  | nil => cases b <;> rfl
  | cons x r ih =>
    cases b with
    | nil => simp at h
    | cons y t =>
      simp only [List.length_cons, List.take_succ_cons, List.cons.injEq] at h
      simp [lcp, h.1, ih h.2]
theorem lcp_len : ∀ a b : List Nat, (lcp a b).length ≤ a.length
  | [], b => by cases b <;> simp [lcp]
  | x :: r, [] => by simp [lcp]
  | x :: r, y :: t => by
    have := lcp_len r t
    unfold lcp
    split <;> simp <;> omega
theorem lt_append_of {d : List Nat} : ∀ b : List Nat, d ≠ [] → b < b ++ d
  | [], hd => by
    cases d with
    | nil => exact absurd rfl hd
    | cons _ _ => exact List.nil_lt_cons _ _
  | x :: r, hd => List.cons_lt_cons_iff.mpr (.inr ⟨rfl, lt_append_of r hd⟩)
theorem lt_len_of {a b : List Nat} {i : Nat} (h : ¬ b < a) (he : a.take i = b.take i) (hi : i < a.length) : i < b.length := by
  refine Classical.byContradiction fun hb => h ?_
  have hb : b.length ≤ i := by omega
  rw [List.take_of_length_le hb] at he
  have e : a = b ++ a.drop i := by rw [← he]; exact (List.take_append_drop i a).symm
  have hd : a.drop i ≠ [] := by simp; omega
  rw [e]
  clear e he hb h hi
  generalize a.drop i = d at hd
  exact lt_append_of b hd

theorem take_step {a b : List Nat} {i : Nat} (h : a.take i = b.take i) (hia : i < a.length) (hib : i < b.length) (he : a.getD i 0 = b.getD i 0) : a.take (i + 1) = b.take (i + 1) := by
  rw [List.getD_eq_getElem?_getD, List.getD_eq_getElem?_getD, List.getElem?_eq_getElem hia, List.getElem?_eq_getElem hib] at he
  have he' : a[i] = b[i] := by simpa using he
  rw [List.take_succ_eq_append_getElem hia, List.take_succ_eq_append_getElem hib, h, he']
def CpJ (a b : List Nat) (m : PySem.Str → Option Value) (i : Nat) (m₁ : PySem.Str → Option Value) (news : List (Addr × Obj)) : Prop :=
  news = [] ∧ a.take i = b.take i ∧ ∃ vi vc, m₁ = fun y => if y = PySem.Str.ofString "c" then vc else if y = PySem.Str.ofString "i" then vi else m y
theorem CpJ.start (a b : List Nat) (m : PySem.Str → Option Value) : CpJ a b m 0 m [] :=
  ⟨rfl, rfl, m (PySem.Str.ofString "i"), m (PySem.Str.ofString "c"), funext fun y => by
    by_cases h : y = PySem.Str.ofString "c"
    · rw [if_pos h, h]
    · rw [if_neg h]
      by_cases h2 : y = PySem.Str.ofString "i"
      · rw [if_pos h2, h2]
      · rw [if_neg h2]⟩
theorem CpJ.step {a b : List Nat} {m : PySem.Str → Option Value} {i : Nat} {vi vc vi' vc' : Option Value} (h : a.take i = b.take i) :
    CpJ a b m i (fun y => if y = PySem.Str.ofString "c" then vc' else if y = PySem.Str.ofString "i" then vi' else (fun y => if y = PySem.Str.ofString "c" then vc else if y = PySem.Str.ofString "i" then vi else m y) y) [] :=
  ⟨rfl, h, vi', vc', funext fun y => by
    by_cases h : y = PySem.Str.ofString "c"
    · rw [if_pos h, if_pos h]
    · rw [if_neg h, if_neg h]
      by_cases h2 : y = PySem.Str.ofString "i"
      · rw [if_pos h2, if_pos h2]
      · rw [if_neg h2, if_neg h2]; dsimp only; rw [if_neg h, if_neg h2]⟩

section
theorem min_N {w : World} {A : Around} {E : Value → Shared → Prop} {s : Shared} {l : Addr} {vs : List Value} {ws : List (List Nat)} {h₀ : Heap} {L : Addr} {m : PySem.Str → Option Value} {news : List (Addr × Obj)} {Q : Value → Shared → Prop} (hA : A.handled = none) (hl : h₀.IsList l vs.toArray) (hS : StrsAre vs (ws.map S)) (h0 : ws ≠ [])
    (Fx : Fr h₀ L s.heap m) (N : News h₀ L s.heap news)
    (h : ∀ a t h' tk, a ∈ ws → (∀ z ∈ ws, ¬ z < a) → Fr h₀ L h' m → News h₀ L h' news → Q (.str (S a) t) { s with heap := h', toks := tk }) :
    wpAny (model PR w) A (call (.builtin "min") [.ref l]) Q E s :=
  min_strs hA (hl.at fun o e => Fx.keep l o e) hS h0 fun a t h' tk ha hm k => h a t h' tk ha hm ⟨Fx.ns.keeps k, fun b o e => k b o (Fx.keep b o e), Fx.above⟩ fun p hp => ⟨k _ _ (N p hp).1, (N p hp).2⟩
theorem max_N {w : World} {A : Around} {E : Value → Shared → Prop} {s : Shared} {l : Addr} {vs : List Value} {ws : List (List Nat)} {h₀ : Heap} {L : Addr} {m : PySem.Str → Option Value} {news : List (Addr × Obj)} {Q : Value → Shared → Prop} (hA : A.handled = none) (hl : h₀.IsList l vs.toArray) (hS : StrsAre vs (ws.map S)) (h0 : ws ≠ [])
    (Fx : Fr h₀ L s.heap m) (N : News h₀ L s.heap news)
    (h : ∀ a t h' tk, a ∈ ws → (∀ z ∈ ws, ¬ a < z) → Fr h₀ L h' m → News h₀ L h' news → Q (.str (S a) t) { s with heap := h', toks := tk }) :
    wpAny (model PR w) A (call (.builtin "max") [.ref l]) Q E s :=
  max_strs hA (hl.at fun o e => Fx.keep l o e) hS h0 fun a t h' tk ha hm k => h a t h' tk ha hm ⟨Fx.ns.keeps k, fun b o e => k b o (Fx.keep b o e), Fx.above⟩ fun p hp => ⟨k _ _ (N p hp).1, (N p hp).2⟩
theorem truthy_list_N {w : World} {A : Around} {E : Value → Shared → Prop} {s : Shared} {l : Addr} {vs : List Value} {ss : List PySem.Str} {h₀ : Heap} {L : Addr} {m : PySem.Str → Option Value} {Q : Bool → Shared → Prop} (hl : h₀.IsList l vs.toArray) (hS : StrsAre vs ss) (hn : ss.length ≤ 1000)
    (Fx : Fr h₀ L s.heap m) (h : ∀ tk, Q (decide (ss ≠ [])) { s with toks := tk }) : wpAny (model PR w) A (truthy (.ref l)) Q E s :=
  truthy_list_len (hl.at fun o e => Fx.keep l o e) hS hn h

local macro_rules | `(tactic| k_steps) => `(tactic| repeat' ((fail_if_success (with_reducible show wpAny _ _ _ (fun it s₂ => PairAt3 _ _ _ _ _ _ _ _ _ _ it s₂) _ _)); first | (k_unfold; (try dsimp only)) | (k_end; wrow_close) | walk1 | (dsimp only; walk1) | (leave1; walk_say "STEP leave1"; try dsimp only) | fail "no step"))
set_option maxRecDepth 100000 in
set_option maxHeartbeats 8000000 in
theorem prefix_spec {w : World} {dp un : Nat} {fr : Option (List Env)} {gd : Option (List Code)} {s : Shared} {Q E : Value → Shared → Prop} {l : Addr} {vs : List Value} {ws : List (List Nat)} {loose : List PySem.Str} {mean : ExcName → Option Value} {mg mb : PySem.Str → Option Value}
   (X : (KF w).In s.heap) (T : Top PySem.W.topProg loose mean mg mb s.heap) (hd : dp < 900) (hl : s.heap.IsList l vs.toArray) (hS : StrsAre vs (ws.map S)) (h0 : ws ≠ []) (hn : ws.length ≤ 1000) (hb : ∀ z ∈ ws, z.length ≤ 1000)
   (k : ∀ h' tk t' a b, a ∈ ws → b ∈ ws → (∀ z ∈ ws, ¬ z < a) → (∀ z ∈ ws, ¬ b < z) → s.heap.StaysIn h' → Q (.str (S (lcp a b)) t') { s with heap := h', toks := tk })
   : wpAny (model PR w) (At dp fr gd un) (call (.ref 50) [.ref l]) Q E s := by
  delta PR KF at *
  revert X; k_fill; intro X
  refine wpAny_call ?_
  k_dflt (refine' enter_fn [] (fun _ h => nomatch h) X T.nolimit ?k6 ?k7 ?k8 ?k9 ?kB ?_ ?c2 ?c3 ?c4 ?c5; (case k6 => k_is); (case k7 => k_is); (case k8 => (simp only [recursionLimit]; omega)); (case k9 => exact BindsTo.of_eq rfl); (case kB => exact locs rfl); (case c2 => exact rfl); (case c3 => exact rfl); (case c4 => exact rfl); (case c5 => decide); k_whole)
  intro L h₁ hL F' N'
  simp only [List.map_nil, hideAll] at F' N'
  k_steps
  refine truthy_list_N hl hS (by simpa using hn) (by with_reducible assumption) fun tk => ?_
  rw [decide_eq_true (by simpa using h0)]
  k_steps
  refine min_N rfl hl hS h0 (by with_reducible assumption) (by with_reducible assumption) fun a ta h2 tk2 ha hma F2 N2 => ?_
  k_sweep
  k_steps
  refine max_N rfl hl hS h0 (by with_reducible assumption) (by with_reducible assumption) fun b tb h3 tk3 hb' hmb F3 N3 => ?_
  k_sweep
  k_steps
  have hab : ¬ b < a := hma b hb'
  have hla := hb a ha
  have hlb := hb b hb'
  have hla' : (S a).length ≤ 1000 := by rw [S_len]; exact hla
  have hlb' : (S b).length ≤ 1000 := by rw [S_len]; exact hlb
  refine PairSrcL.at (by assumption) _ rfl _ _ _ _ (CpJ a b _) (CpJ.start a b _) ?_ ?_
  · rintro i c ti v m₁ news₁ s₁ own ⟨h5, tk5, rfl⟩ hi hv ⟨rfl, hJ, vi, vc, rfl⟩ hnn hoo F5 N5
    have hia : i < a.length := by
      have := (List.getElem?_eq_some_iff.mp hi).1
      simpa [signs_length, S_len] using this
    have hib := lt_len_of hab hJ hia
    have hib' : i < (S b).length := by rw [S_len]; exact hib
    have hit : Txt.item (S b) (i : Int) = S [b.getD i 0] := item_S (by omega) (by omega)
    have hc : c = S [a.getD i 0] := by
      have := signs_get (y := S a) (i := i) (c := a.getD i 0) (by show a.toArray[i]? = _; simp [List.getD_eq_getElem?_getD, hia])
      rw [hi] at this
      exact Option.some.inj this
    subst hc
    obtain ⟨tc, rfl⟩ := ItemKind.str_is hv
    k_steps
    · rename (_ != _) = true => hne
      rw [hit] at hne
      have hne2 : a[i]? ≠ b[i]? := by
        rw [List.getElem?_eq_getElem hia, List.getElem?_eq_getElem hib]
        intro q
        rw [List.getD_eq_getElem?_getD, List.getD_eq_getElem?_getD, List.getElem?_eq_getElem hia, List.getElem?_eq_getElem hib, Option.some.inj q] at hne
        simp at hne
      rw [slice_to (by omega), show ((i : Int).toNat) = i from rfl, ← lcp_take hJ hia hib hne2]
      exact k _ _ _ a b ha hb' hma hmb (Fr.keep (by assumption))
    · rename (_ != _) = false => hne
      rw [hit] at hne
      refine CpJ.step ?_
      have he : a.getD i 0 = b.getD i 0 := by
        have : S [a.getD i 0] = S [b.getD i 0] := by simpa using hne
        simpa using S_inj this
      exact take_step hJ hia hib he
  · intro h6 tk6 m6 n6 F6 N6 hn6 ⟨_, hJ, vi, vc, hm6⟩
    subst hm6
    k_steps
    have e : a = lcp a b := (lcp_all (by rw [signs_length, S_len, List.take_length] at hJ; exact hJ.symm)).symm
    dsimp only
    rw [e]
    exact k _ _ _ a b ha hb' hma hmb (Fr.keep (by assumption))
end
end Mine
end

section
open PySem PySem.W PyProof.Rows
set_option Elab.async false
namespace Mine
theorem lt {a d : Nat} (h : d = a + 1) : a ≠ d := by omega
theorem lt2 {a d : Nat} (h : d = a + 1 + 1) : a ≠ d := by omega
theorem low {b a d : Nat} (hb : b < a) (h : d = a + 1) : b ≠ d := by omega
theorem low2 {b a d : Nat} (hb : b < a) (h : d = a + 1 + 1) : b ≠ d := by omega
section
set_option maxRecDepth 100000 in
set_option maxHeartbeats 8000000 in
theorem joined_spec {w : World} {dp un : Nat} {fr : Option (List Env)} {gd : Option (List Code)} {s : Shared} {Q E : Value → Shared → Prop} {l l2 : Addr} {vs vs2 : List Value} {ws us : List (List Nat)} {loose : List PySem.Str} {mean : ExcName → Option Value} {mg mb : PySem.Str → Option Value}
   (X : (KF w).In s.heap) (T : Top PySem.W.topProg loose mean mg mb s.heap) (hd : dp < 900) (hl : s.heap.IsList l vs.toArray) (hS : StrsAre vs (ws.map S)) (hl2 : s.heap.IsList l2 vs2.toArray) (hS2 : StrsAre vs2 (us.map S)) 
   (hws : ∀ u ∈ ws, u.length ≤ 100000) (hus : ∀ u ∈ us, u.length ≤ 100000) (hsz : ws.length * us.length ≤ 1000000)
   (k : ∀ h' tk D vs' n, h'.get? D = some (listOf (List.toArray vs') n) → s.heap.objs.size ≤ D → StrsAre vs' ((joined ws us).map S) → s.heap.StaysIn h' → Q (.ref D) { s with heap := h', toks := tk })
   : wpAny (model PR w) (At dp fr gd un) (call (.ref 192) [.ref l, .ref l2]) Q E s := by
  delta PR KF at *
  revert X; k_fill; intro X
  refine wpAny_call ?_
  k_dflt (refine' enter_fnC [] (fun _ h => nomatch h) X T.nolimit ?k6 ?k7 ?k8 ?k9 ?kB ?kD ?_ ?c2 ?c3 ?c4; (case k6 => k_is); (case k7 => k_is); (case k8 => (simp only [recursionLimit]; omega)); (case k9 => exact BindsTo.of_eq rfl); (case kB => exact rfl); (case kD => decide +kernel); (case c2 => exact rfl); (case c3 => exact rfl); (case c4 => exact rfl); k_whole)
  intro L h₁ tk cells hL F' N' Y'
  k_cells Y'
  simp only [List.map_nil, hideAll, List.append_nil] at F' N'
  k_steps
  rename_i o' d1'
  have hc₁ : h₁.IsCell (L + 1) (some (.ref l2)) := ⟨o', (N' _ (List.mem_cons_self ..)).1, d1'⟩
  have hl₁ := hl.at fun o e => F'.keep _ o e
  have hl2₁ := hl2.at fun o e => F'.keep _ o e
  refine comp_two (cl := [(PySem.Str.ofString "last", L + 1)]) rfl (by decide) rfl (by decide) ?_
  refine wpAny_Name (wpAny_loadName_local (v := .ref l) rfl rfl F'.ns rfl ?_)
  refine wpAny_pyIter_list hl₁ ?_
  intro h₂ tk₂ D C hD hC hk₂ hD₂ hn₂
  dsimp only at hk₂ hD hC ⊢
  rw [Heap.size_push] at hD hC
  have hit : (h₁.push { cls := .type "list_iterator", data := .fields #[.ref l, .int 0 0] }).IsListIter h₁.objs.size l 0 := ⟨_, Heap.get?_push_size _ rfl, rfl, rfl⟩
  have hup : ∀ b o, h₁.get? b = some o → h₂.get? b = some o := fun b o e => hk₂ _ _ (Heap.get?_push_of_some _ e)
  have hit₂ : h₂.IsListIter h₁.objs.size l 0 := hit.at fun o e => hk₂ _ o e
  have hll : l < h₁.objs.size := let ⟨_, e, _⟩ := hl₁; Heap.lt_size e
  have hll2 : l2 < h₁.objs.size := let ⟨_, e, _⟩ := hl2₁; Heap.lt_size e
  have hlc : L + 1 < h₁.objs.size := let ⟨_, e, _⟩ := hc₁; Heap.lt_size e
  refine ⟨wpAny_pyIter_listiter hit₂ ⟨rfl, rfl⟩, ?_⟩
  refine outer_loop rfl (c := L + 1) ⟨rfl, rfl, rfl, rfl, rfl⟩ hit₂ (hl₁.at fun o e => hup _ o e) hS (hl2₁.at fun o e => hup _ o e) hS2 hD₂ hn₂ (isCell_ext hc₁ (X := []) (by simp) fun b o _ e => hup b o e)
    (lt hD) (show h₁.objs.size ≠ C from lt2 hC) (show D ≠ C from by rw [hD, hC]; exact Nat.ne_of_lt (Nat.lt_succ_self _)) (Nat.ne_of_lt hll) (low hll hD) (show l ≠ C from low2 hll hC) (Nat.ne_of_lt hll2) (low hll2 hD) (show l2 ≠ C from low2 hll2 hC) (Nat.ne_of_lt hlc) (low hlc hD) (show L + 1 ≠ C from low2 hlc hC) hws hus hsz ?_
  intro h' tk' ys' n' m' hD' hys hn' hk'
  refine ⟨rfl, m', hn', fun h₃ hs₃ => ?_⟩
  have hDC : D ≠ C := by rw [hD, hC]; exact Nat.ne_of_lt (Nat.lt_succ_self _)
  have hs : s.heap.objs.size ≤ h₁.objs.size := by have := F'.above; omega
  refine k h₃ tk' D ys'.toList n' (by rw [Array.toArray_toList]; exact hs₃.extBut _ _ hDC hD') (by rw [hD]; exact Nat.le_succ_of_le hs) hys fun b o e => ?_
  have e1 := F'.keep b o e
  have hb : b < h₁.objs.size := Heap.lt_size e1
  have hbC : b ≠ C := low2 hb hC
  refine hs₃.extBut _ _ hbC (hk' b o ?_ (hup b o e1))
  have hbI : b ≠ h₁.objs.size := Nat.ne_of_lt hb
  have hbD : b ≠ D := low hb hD
  show b ∉ [h₁.objs.size, D, C]
  simp [hbI, hbD, hbC]
end
end Mine
end

section
open PySem PySem.W PyProof.Rows
set_option Elab.async false
namespace Mine

/-- the ground that a call stands on: `g` is what the frames below and the program's objects lie in; `led` lies beside it -/
structure Grd (A : Around) (base : Heap) (outer : List Env) (g : Heap) (led : List (Addr × Obj)) (h : Heap) : Prop where
  below : Below A base outer g
  dicts : KtsDicts (outer.filterMap (·.frame)) g
  keep : ∀ b o, g.get? b = some o → h.get? b = some o
  size : g.objs.size ≤ h.objs.size
  led : ∀ p ∈ led, h.get? p.1 = some p.2 ∧ g.get? p.1 = none

theorem Grd.sub {A : Around} {base g h : Heap} {outer : List Env} {led led' : List (Addr × Obj)} (G : Grd A base outer g led h) (hs : ∀ p ∈ led', p ∈ led) : Grd A base outer g led' h :=
  ⟨G.below, G.dicts, G.keep, G.size, fun p hp => G.led p (hs p hp)⟩

section
variable {prog : Program} {w : World} {A₀ A : Around} {s : Shared} {base h₀ g₀ : Heap} {outer : List Env} {L a : Addr} {m : Str → Option Value} {cn : Str} {cs : Scope} {ccd : Value} {news led' : List (Addr × Obj)}

theorem mem_frames {env : Env} {outer : List Env} {L b : Addr} (hf : env.frame = some L) (hm : b ∈ (env :: outer).filterMap (·.frame)) : b = L ∨ b ∈ outer.filterMap (·.frame) := by
  rw [List.filterMap_cons, hf] at hm
  exact List.mem_cons.mp hm
/-- the ground for a call out of a body that is being walked, and the way back -/
theorem ground_of {env : Env} (B : Below A₀ base outer h₀) (F : Fr h₀ L s.heap m) (N : News h₀ L s.heap news) (D : KtsDicts (outer.filterMap (·.frame)) h₀) (T0 : KtsTurn (outer.filterMap (·.frame)) g₀ h₀)
    (hA : A.frames = some (env :: outer)) (hf : env.frame = some L) (hck : env.scope.kind ≠ .module) :
    ∃ g, Grd A base (env :: outer) g news s.heap ∧
      ∀ g' h' led', KtsTurn ((env :: outer).filterMap (·.frame)) g g' → Grd A base (env :: outer) g' led' h' →
        ∃ h₀', KtsTurn (outer.filterMap (·.frame)) g₀ h₀' ∧ Fr h₀' L h' m ∧ News h₀' L h' led' ∧ Below A₀ base outer h₀' ∧ KtsDicts (outer.filterMap (·.frame)) h₀' := by
  have nm : ∀ b o, h₀.get? b = some o → b ∉ news.map (·.1) := fun b o e q => by
    obtain ⟨p, hp, rfl⟩ := List.mem_map.mp q
    rw [(N p hp).2.2] at e; cases e
  have st : h₀.StaysIn (hideAll s.heap (news.map (·.1))) := fun b o e => hideAll_get _ (F.keep b o e) (nm b o e)
  obtain ⟨oL, es, ep, hL, hLd, hLk, hLf⟩ := F.ns
  have nL : L ∉ news.map (·.1) := fun q => by
    obtain ⟨p, hp, e⟩ := List.mem_map.mp q
    exact (N p hp).2.1 e
  have hLg := hideAll_get (news.map (·.1)) hL nL
  have nL₀ : h₀.get? L = none := kts_self F
  have hnew : base.get? L = none := by
    cases hq : base.get? L with
    | none => rfl
    | some o => exact absurd (Nat.lt_of_lt_of_le (Heap.lt_size (B.stays L o hq)) F.above) (Nat.lt_irrefl _)
  have B₁ : Heap.FunFrames s.heap base (env :: outer) := .cons hck hf F.ns hnew (B.frames.of_keeps fun b o e _ => ⟨o, F.keep b o e, rfl⟩)
  have B₂ : Below A base (env :: outer) (hideAll s.heap (news.map (·.1))) := ⟨hA, fun b o e => st b o (B.stays b o e), funFrames_hideAll B₁ fun env' he b hb hf' => by
    cases he with
    | head => rw [hf] at hf'; exact nL ((Option.some.inj hf' : L = b) ▸ hb)
    | tail _ he =>
      obtain ⟨L₁, o₁, hf₁, ho₁⟩ := funFrames_in B.frames env' he
      rw [hf₁] at hf'
      exact nm L₁ o₁ ho₁ ((Option.some.inj hf' : L₁ = b) ▸ hb)⟩
  have hNs : ∀ (sl : Array (Option Value)) h', h'.get? L = some { oL with slots := sl } → Heap.Ns h' L m := fun sl h' e => ⟨_, es, ep, e, hLd, hLk, hLf⟩
  refine ⟨_, ⟨B₂, fun b hb => ?_, fun b o e => of_hideAll _ e, Nat.le_of_eq (hideAll_size _ _), fun p hp => ⟨(N p hp).1, hideAll_none _ (List.mem_map_of_mem hp)⟩⟩, fun g' h' led' T' G' => ?_⟩
  · rcases mem_frames hf hb with rfl | hb
    · exact ⟨oL, es, ep, hLg, hLd⟩
    · obtain ⟨o, es', n', ho', hd'⟩ := D b hb
      exact ⟨o, es', n', st b o ho', hd'⟩
  obtain ⟨sl, hs⟩ := T'.up hLg
  obtain ⟨T₁, S₁⟩ := kts_turn_at (h := h') (fs := outer.filterMap (·.frame)) (g := h₀)
    (fun b hb => by
      obtain ⟨_, o, ho', _⟩ := B.frames.mem hb
      exact ⟨o, ho'⟩)
    (fun b o e nmem => G'.keep b o (T'.other b o (st b o e) (fun q => by
      rcases mem_frames hf q with z | z
      · rw [z, nL₀] at e
        cases e
      · exact nmem z)))
    (fun b o e hm => by
      obtain ⟨sl', hs'⟩ := T'.up (st b o e)
      exact ⟨sl', G'.keep _ _ hs'⟩)
  have B₃ : Below A₀ base outer (ktsHeap h' (outer.filterMap (·.frame)) h₀) := ⟨B.stack, fun b o e => T₁.other b o (B.stays b o e) (fun hm => by
    rw [(B.frames.mem hm).1] at e
    cases e), B.frames.of_keeps fun b o e _ => by
    obtain ⟨sl', hs'⟩ := T₁.up e
    exact ⟨_, hs', rfl⟩⟩
  refine ⟨_, T0.trans T₁, ⟨hNs sl _ (G'.keep _ _ hs), S₁, by rw [T₁.size]; exact F.above⟩, fun p hp => ⟨(G'.led p hp).1, fun q => ?_, ?_⟩, B₃, D.turn T₁⟩
  · have := (G'.led p hp).2; rw [q, hs] at this; cases this
  · refine T₁.none_ _ ?_
    cases q : h₀.get? p.1 with
    | none => rfl
    | some o =>
      obtain ⟨sl', hs'⟩ := T'.up (st _ _ q)
      have := (G'.led p hp).2
      rw [hs'] at this
      cases this

/-- a def without cells, entered on a ground -/
theorem enter_grd {K : Frag} {loose : List Str} {mean : ExcName → Option Value} {mg mb : Str → Option Value} {R : Result → Shared → Prop} {name qual : Str} {params : Arguments} {body : List Stmt} {scope : Scope} {dV kV doc pm cdv ct oc : Value} {an od : Option Addr} {osl : Array (Option Value)} {f : Addr} {args : Args} {binds : List (Str × Value)} {g : Heap} {led : List (Addr × Obj)} {p : Program}
    (G : Grd A base outer g led s.heap) (X₀ : K.In base) (T : Top p loose mean mg mb base)
    (ho : K.lookup f = some ⟨oc, od, .func (fnOf name qual params body scope dV kV doc pm an cdv ct), osl⟩) (hcd : codeIn K cdv qual = true) (hroom : A.depth < recursionLimit)
    (hbind : BindsTo s (fnOf name qual params body scope dV kV doc pm an cdv ct) args binds) (hloc : ∀ y ∈ binds, scope.names.lookup y.1 = some .local)
    (h : ∀ L' h₁, L' = s.heap.objs.size → Fr g L' h₁ (fun y => binds.reverse.lookup y) → News g L' h₁ led → Below A base outer g → K.In g → Top p loose mean mg mb g → KtsDicts (outer.filterMap (·.frame)) g → KtsTurn (outer.filterMap (·.frame)) g g →
      wpAny (model prog w) (A.deeper (envOf qual scope L' f cdv)) (execs body (envOf qual scope L' f cdv))
        (fun fl s' => R (.ok (.ret (match fl with | .ret v => v | _ => .none))) s')
        (fun e s' => wpAny (model prog w) (A.deeper (envOf qual scope L' f cdv)) (leaving (envOf qual scope L' f cdv) e) (fun _ s'' => R (.error e) s'') (fun e' s'' => R (.error e') s'') s')
        { s with heap := h₁, toks := s.toks + binds.length })
    (hco : scope.isCoroutine = false := by rfl) (hgen : scope.isGenerator = false := by rfl) (hk : scope.kind = .function := by rfl)
    (hcell : ∀ x ∈ scope.names, x.2 ≠ .cell := by decide) : codeAny (model prog w) A (.call (.ref f) args) R s := by
  have Xg := X₀.keeps G.below.stays
  have Tg := T.keeps G.below.stays
  have X := Xg.keeps G.keep
  refine codeAny_call_def (fd := fnOf name qual params body scope dV kV doc pm an cdv ct) (body := body) (binds := binds) hroom (X _ _ ho) rfl (Tg.nolimit.keeps G.keep) (codeRec_of X hcd) rfl hbind hcell hloc (fun h₁ hns hk₁ => ?_) hco hgen hk
  exact h _ h₁ rfl ⟨hns, fun b o e => hk₁ b o (G.keep b o e), G.size⟩ (fun p hp => ⟨hk₁ _ _ (G.led p hp).1, Nat.ne_of_lt (Heap.lt_size (G.led p hp).1), (G.led p hp).2⟩) G.below Xg Tg G.dicts KtsTurn.refl

/-- a def with cells, entered on a ground -/
theorem enter_grdC {K : Frag} {loose : List Str} {mean : ExcName → Option Value} {mg mb : Str → Option Value} {R : Result → Shared → Prop} {name qual : Str} {params : Arguments} {body : List Stmt} {scope : Scope} {dV kV doc pm cdv ct oc : Value} {an od : Option Addr} {osl : Array (Option Value)} {f : Addr} {args : Args} {binds : List (Str × Value)} {g : Heap} {led : List (Addr × Obj)} {p : Program}
    (G : Grd A base outer g led s.heap) (X₀ : K.In base) (T : Top p loose mean mg mb base)
    (ho : K.lookup f = some ⟨oc, od, .func (fnOf name qual params body scope dV kV doc pm an cdv ct), osl⟩) (hcd : codeIn K cdv qual = true) (hroom : A.depth < recursionLimit)
    (hbind : BindsTo s (fnOf name qual params body scope dV kV doc pm an cdv ct) args binds) (hkind : (binds.all fun y => scope.names.lookup y.1 == some .local || scope.names.lookup y.1 == some .cell) = true)
    (hnd : ((cellsFrom 0 scope.names []).map (·.1)).Nodup)
    (h : ∀ L' h₁ tk cells, L' = s.heap.objs.size → Fr g L' h₁ (bindL (envOfC qual scope L' f cdv).kindOf binds fun _ => none) → News g L' h₁ (cells ++ led) → CellsAre (bindC (envOfC qual scope L' f cdv).kindOf binds fun _ => none) (cellsFrom (L' + 1) scope.names []) cells →
      Below A base outer g → K.In g → Top p loose mean mg mb g → KtsDicts (outer.filterMap (·.frame)) g → KtsTurn (outer.filterMap (·.frame)) g g →
      wpAny (model prog w) (A.deeper (envOfC qual scope L' f cdv)) (execs body (envOfC qual scope L' f cdv))
        (fun fl s' => R (.ok (.ret (match fl with | .ret v => v | _ => .none))) s')
        (fun e s' => wpAny (model prog w) (A.deeper (envOfC qual scope L' f cdv)) (leaving (envOfC qual scope L' f cdv) e) (fun _ s'' => R (.error e) s'') (fun e' s'' => R (.error e') s'') s')
        { s with heap := h₁, toks := tk })
    (hco : scope.isCoroutine = false := by rfl) (hgen : scope.isGenerator = false := by rfl) (hk : scope.kind = .function := by rfl) : codeAny (model prog w) A (.call (.ref f) args) R s := by
  have Xg := X₀.keeps G.below.stays
  have Tg := T.keeps G.below.stays
  have X := Xg.keeps G.keep
  have hlim := Tg.nolimit.keeps G.keep
  refine codeAny_call_function hroom (X _ _ ho) rfl hco hgen rfl (codeRec_of X hcd) (hbind _ _ _ _ ?_)
  refine wpAny_newFunctionEnv_cells hk (kindsX hkind _) fun env' he s' x => ?_
  subst he
  refine ⟨hlim.keeps x.toInCall.keep, codeAny_func ?_⟩
  obtain ⟨h₁, tk, rfl, _⟩ := x.done
  have hk₁ := x.toInCall.keep
  obtain ⟨cells, NC, Y⟩ := Cl.news (h₀ := s.heap) (Nat.le_refl _) fun n c hm => ⟨x.cell n c (lookup_of_mem_nodup (cellsFrom_names scope.names 0 (s.heap.objs.size + 1) [] [] rfl ▸ hnd) hm), x.above n c hm⟩
  refine h s.heap.objs.size h₁ tk cells rfl ⟨x.toInCall.ns, fun b o e => hk₁ b o (G.keep b o e), G.size⟩ (fun p hp => ?_) Y G.below Xg Tg G.dicts KtsTurn.refl
  rcases List.mem_append.mp hp with hp | hp
  · refine ⟨(NC p hp).1, (NC p hp).2.1, ?_⟩
    cases q : g.get? p.1 with
    | none => rfl
    | some o => have := G.keep _ _ q; rw [(NC p hp).2.2] at this; cases this
  · exact ⟨hk₁ _ _ (G.led p hp).1, Nat.ne_of_lt (Heap.lt_size (G.led p hp).1), (G.led p hp).2⟩
end
end Mine
end

section
open PySem PySem.W PyProof.Rows
set_option Elab.async false
namespace Mine
theorem upd_size (h : Heap) (a : Addr) (f : Obj → Obj) : (h.update a f).objs.size = h.objs.size := Heap.size_after_update ..
theorem runs_grow {M : Model} {Γ : Ctx} {p : Pos} {t : Sem Fin} {fs : List Frame} {s s' : Shared} {e : End} (h : Runs M Γ p t fs s e s') : s.heap.objs.size ≤ s'.heap.objs.size := by
  induction h with
  | done | raise | yield => exact Nat.le_refl _
  | update _ _ ih => rw [← upd_size]; exact ih
  | alloc _ ih => exact Nat.le_trans (by rw [size_push']; exact Nat.le_succ _) ih
  | again _ _ ih | rule _ ih | «at» _ ih | load _ _ ih | loadIfAlive _ ih | point _ ih | fresh _ ih | ask _ ih | choose _ _ ih | os _ ih | handled _ ih | genState _ _ ih | stack _ ih | thread _ ih | newGen _ ih => exact ih
  | callSusp _ ih => exact ih
  | call _ _ i1 i2 => exact Nat.le_trans i1 i2
  | resumeFresh _ _ _ _ i1 i2 => exact Nat.le_trans i1 i2
  | resumeSuspended _ _ _ _ i1 i2 => exact Nat.le_trans i1 i2
  | resumeJustStarted _ _ _ ih => exact ih
  | resumeThrowFresh _ _ ih => exact ih
  | resumeRunning _ _ ih => exact ih
  | resumeFinished _ _ ih => exact ih
  | segRet _ _ i1 i2 => exact Nat.le_trans i1 i2
  | segGen _ _ i1 i2 => exact Nat.le_trans i1 i2
  | segSuspOut _ _ ih => exact ih
  | segSuspGen _ _ _ _ i1 i2 => exact Nat.le_trans i1 i2
theorem wakes_grow {M : Model} {Γ : Ctx} {p : Pos} {g : Nat} {r : Resume} {s s' : Shared} {res : GenResult} (h : Wakes M Γ p g r s res s') : s.heap.objs.size ≤ s'.heap.objs.size := by
  unfold Wakes at h
  split at h
  · exact h.elim
  · split at h
    · obtain ⟨e₁, s₁, hr, _, _, rfl⟩ := h; have := runs_grow hr; exact this
    · rw [h.2]; exact Nat.le_refl _
    · rw [h.2]; exact Nat.le_refl _
  · obtain ⟨e₁, s₁, hr, _, _, rfl⟩ := h; have := runs_grow hr; exact this
  · rw [h.2]; exact Nat.le_refl _
  · rw [h.2]; exact Nat.le_refl _
theorem wp_grow {α : Type} {M : Model} {Γ : Ctx} (t : Sem α) {Q : α → Pos → Shared → Prop} {E : Value → Pos → Shared → Prop} (n : Nat) (p : Pos) (s : Shared) (hn : n ≤ s.heap.objs.size)
    (h : Sem.wp M Γ t (fun a p' s' => n ≤ s'.heap.objs.size → Q a p' s') (fun e p' s' => n ≤ s'.heap.objs.size → E e p' s') p s) : Sem.wp M Γ t Q E p s := by
  induction t generalizing p s with
  | pure x => exact h hn
  | raise v => exact h hn
  | unsupported | finish | yield | fork | await | register => exact h
  | rule _ k ih | «at» _ k ih | loadIfAlive _ k ih | point _ k ih | fresh k ih | ask k ih | os _ _ k ih | handled _ k ih | newGen _ k ih | stack k ih | thread k ih => exact ih _ _ _ hn h
  | alloc _ k ih => exact ih _ _ _ (Nat.le_trans hn (by rw [size_push']; exact Nat.le_succ _)) h
  | load a _ k ih | genState a k ih => obtain ⟨o, ho, h⟩ := h; exact ⟨o, ho, ih _ _ _ hn h⟩
  | update a _ f k ih => obtain ⟨ha, h⟩ := h; exact ⟨ha, ih _ _ _ (by rw [upd_size]; exact hn) h⟩
  | choose _ _ k ih => obtain ⟨ha, h⟩ := h; exact ⟨ha, ih _ _ _ hn h⟩
  | call c hc g l k ih => obtain ⟨r, s', hr, h⟩ := h; exact ⟨r, s', hr, ih _ _ _ (Nat.le_trans hn (runs_grow hr)) h⟩
  | resume g r l k ih => obtain ⟨res, s', hw, h⟩ := h; exact ⟨res, s', hw, ih _ _ _ (Nat.le_trans hn (wakes_grow hw)) h⟩
/-- the heap never shrinks -/
theorem wpAny_grow {α : Type} {M : Model} {A : Around} {t : Sem α} {Q : α → Shared → Prop} {E : Value → Shared → Prop} {s : Shared}
    (h : wpAny M A t (fun a s' => s.heap.objs.size ≤ s'.heap.objs.size → Q a s') (fun e s' => s.heap.objs.size ≤ s'.heap.objs.size → E e s') s) : wpAny M A t Q E s :=
  fun Γ p hΓ => wp_grow t _ p s (Nat.le_refl _) (h Γ p hΓ)
end Mine
namespace Mine
theorem stop_S {M : Model} {A : Around} {E : Value → Shared → Prop} {Q : Option Value → Shared → Prop} {base g : Heap} {outer : List Env} {e t : Addr} {vs : List Value} {news : List (Addr × Obj)} {s' : Shared}
    (R : RaisedS base g outer e (.type "StopIteration") t vs news s'.heap) (k : Q none s') : OwitStop M A Q E (.ref e) s' := by
  obtain ⟨⟨B, hB, _, hl, hfl, _⟩, _⟩ := R
  obtain ⟨ob, hob, hobc⟩ := hfl.there
  have hT : s'.TypeIs (.ref e) "StopIteration" := (show ∃ o, s'.heap.get? e = some o ∧ o.cls = .type "StopIteration" from ⟨ob, hob, hobc⟩)
  unfold OwitStop
  refine wpAny_isInstance hT (b := true) isSubtype_stop ?_
  show (if true = true then Q none s' else E (.ref e) s')
  rw [if_pos rfl]
  exact k
theorem raised_ground {A : Around} {base g h' : Heap} {outer : List Env} {e t : Addr} {cls : Value} {vs : List Value} {news led : List (Addr × Obj)} (G : Grd A base outer g led h) (R : RaisedS base g outer e cls t vs news h') (U : g.UpToSlots h') (hz : g.objs.size ≤ h'.objs.size) :
    ∃ g', KtsTurn (outer.filterMap (·.frame)) g g' ∧ Grd A base outer g' news h' := by
  obtain ⟨⟨B, hB, hBG, hl, hfl, _⟩, _⟩ := R
  obtain ⟨T₁, S₁⟩ := kts_turn_at (h := h') (fs := outer.filterMap (·.frame)) (g := g)
    (fun b hb => by
      obtain ⟨_, o, ho', _⟩ := G.below.frames.mem hb
      exact ⟨o, ho'⟩)
    (fun b o e' nm => hfl.1 b o (hBG b o e' nm))
    (fun b o e' hm => by
      obtain ⟨o', es, n', ho', hd⟩ := G.dicts b hm
      rw [e'] at ho'
      cases ho'
      exact U b o e' (fun vs q => by rw [hd] at q; cases q))
  refine ⟨_, T₁, ⟨⟨G.below.stack, fun b o e' => T₁.other b o (G.below.stays b o e') (fun hm => by
    rw [(G.below.frames.mem hm).1] at e'
    cases e'), G.below.frames.of_keeps fun b o e' _ => by
    obtain ⟨sl', hs'⟩ := T₁.up e'
    exact ⟨_, hs', rfl⟩⟩, G.dicts.turn T₁, S₁, by rw [T₁.size]; exact hz, fun q hq => ⟨hfl.1 _ _ (hl q hq).1, T₁.none_ _ (hl q hq).2.1⟩⟩⟩
end Mine
end

section
open PySem PySem.W PySem.Calls PyProof.Rows PySem.Spec
set_option Elab.async false
set_option maxRecDepth 100000
namespace Mine
theorem isExc_Stop : isSubtype (.type "StopIteration") (.type "BaseException") = pure true := by rw [isSubtype_type]; kernel_rfl
theorem notTuple_Stop : isSubtype (.type ((Manifest.find? "StopIteration").elim "type" fun x => x.metatype)) (.type "tuple") = pure false := by
  rw [show ((Manifest.find? "StopIteration").elim "type" fun x => x.metatype) = "type" from by kernel_rfl, isSubtype_type]; kernel_rfl
section
variable {prog : Program} {w : World} {A₀ : Around} {E : Value → Shared → Prop} {s' : Shared} {base g g₀ h : Heap} {outer : List Env} {L a e : Addr} {m : PySem.Str → Option Value} {name : PySem.Str} {scope : Scope} {cd : Value}
  {vs : List Value} {b₀ : Stmt} {suite : List Stmt} {pos np : Pos} {rest : List ExceptHandler} {Q : Flow → Shared → Prop} {news : List (Addr × Obj)} {KF : Frag}
  {p : Program} {loose : List PySem.Str} {mean : ExcName → Option Value} {mg mb : PySem.Str → Option Value} {x : PySem.Str} {X T' : String}
/-- an exception made in the frame that holds the try, and caught there -/
theorem caught_M0 (hx : Heap.MadeExc h s'.heap e X vs) (F : Fr g L h m) (N : News g L h news) (K : Below A₀ base outer g) (XB : KF.In base) (TB : Top p loose mean mg mb base)
    (D : KtsDicts (outer.filterMap (·.frame)) g) (T0 : KtsTurn (outer.filterMap (·.frame)) g₀ g)
    (ex : nsIn KF mainGlobals x = some none) (hv : bootBuiltins x = some (.type T')) (hn' : x ≠ "__name__")
    (hexc : isSubtype (.type T') (.type "BaseException") = pure true) (hnt : isSubtype (.type ((Manifest.find? T').elim "type" fun y => y.metatype)) (.type "tuple") = pure false) (hsub : isSubtype (.type X) (.type T') = pure true)
    (k : ∀ h' g', KtsTurn (outer.filterMap (·.frame)) g₀ g' → Fr g' L h' m → News g' L h' news → Below A₀ base outer g' → KF.In g' → Top p loose mean mg mb g' → KtsDicts (outer.filterMap (·.frame)) g' →
      wpAny (model prog w) ((A₀.deeper (envOf name scope L a cd)).mark (some (.ref e))) (execs (b₀ :: suite) (envOf name scope L a cd)) Q E { s' with heap := h' })
    (hk : scope.kind = .function := by rfl) (hxk : (envOf name scope L a cd).kindOf x = some .globalImplicit := by rfl) (hd : (x == ("__debug__" : PySem.Str)) = false := by decide)
    (hE : PassesOwnAt (model prog w) ((A₀.deeper (envOf name scope L a cd)).mark (some (.ref e))) (A₀.deeper (envOf name scope L a cd)) (envOf name scope L a cd) E := by passes_own) :
    wpAny (model prog w) (A₀.deeper (envOf name scope L a cd)) (noteFrame (.ref e) (envOf name scope L a cd))
      (fun _ s₂ => wpAny (model prog w) (A₀.deeper (envOf name scope L a cd)) (setFlight (.ref e) none) (fun _ s₃ =>
        wpAny (model prog w) (A₀.deeper (envOf name scope L a cd)) (handleBy (.ref e) (envOf name scope L a cd) (.ExceptHandler (some (.Name x np)) none (b₀ :: suite) pos :: rest)) Q E s₃) E s₂) E s' := by
  have K' := K.push (name := name) (a := a) (cd := cd) F hk
  have hin : ∀ env ∈ (envOf name scope L a cd :: outer), ∀ b, env.frame = some b → b ∈ (envOf name scope L a cd :: outer).filterMap (·.frame) := fun env he b hb => List.mem_filterMap.mpr ⟨env, he, hb⟩
  have nm : ∀ q ∈ news, q.1 ∉ (envOf name scope L a cd :: outer).filterMap (·.frame) := fun q hq hm => by
    obtain ⟨env, he, hf⟩ := List.mem_filterMap.mp hm
    rcases List.mem_cons.mp he with rfl | he
    · exact (N q hq).2.1 (Option.some.inj hf).symm
    · obtain ⟨o, ho, _⟩ := (K.frames.mem (List.mem_filterMap.mpr ⟨env, he, hf⟩)).2
      rw [(N q hq).2.2] at ho; cases ho
  have hFF : (hideAll h ((envOf name scope L a cd :: outer).filterMap (·.frame))).StaysIn h := fun b o q => of_hideAll _ q
  obtain ⟨t, he, htn, ht⟩ := hx.there
  have hB0 : ∀ b, h.get? b = none → (hideAll h ((envOf name scope L a cd :: outer).filterMap (·.frame))).get? b = none := fun b hb => by
    cases q : (hideAll h ((envOf name scope L a cd :: outer).filterMap (·.frame))).get? b with
    | none => rfl
    | some o => have := hFF b o q; rw [hb] at this; cases this
  have hlB : h.FunFrames (hideAll h ((envOf name scope L a cd :: outer).filterMap (·.frame))) (envOf name scope L a cd :: outer) := funFrames_hide K'.frames hin
  have hl' : s'.heap.FunFrames (hideAll h ((envOf name scope L a cd :: outer).filterMap (·.frame))) (envOf name scope L a cd :: outer) := hlB.of_keeps fun b o hb _ => ⟨o, hx.keeps b o hb, rfl⟩
  have hBG : ∀ b o, h.get? b = some o → b ∉ (envOf name scope L a cd :: outer).filterMap (·.frame) → (hideAll h ((envOf name scope L a cd :: outer).filterMap (·.frame))).get? b = some o := fun b o q hm => hideAll_get _ q hm
  have hsm : h.UpToSlots s'.heap := Heap.UpToSlots.of_keeps hx.keeps
  unfold noteFrame
  simp only [show (envOf name scope L a cd).frame = some L from rfl]
  refine wpAny_bind (wpAny_field he rfl (x := Value.none) rfl ?_)
  rw [if_neg (by decide)]
  refine wpAny_entryW (a0 := .ref t) (Around.frames_deeper K.stack) hl' rfl he (fun b o hb => hx.keeps b o (hFF b o hb)) (hB0 e hx.new) rfl (show 1 < 6 by decide) rfl fun h₄ hN4 => ?_
  obtain ⟨n1, n2, n3, n4⟩ := hN4
  have hheld₄ : Heap.HeldW (hideAll h ((envOf name scope L a cd :: outer).filterMap (·.frame))) (envOf name scope L a cd :: outer) e (.type X) (.ref t) L h₄ := ⟨n1, hB0 e hx.new, n2, n3⟩
  refine wpAny_landsW hheld₄ fun h₅ hheld hsm₅' => ?_
  have n4' : s'.heap.UpToSlots h₄ := n4
  have hsm₅ := n4'.trans hsm₅'
  obtain ⟨g₅, T₅, F₅, K₅⟩ := kts_ground K F hBG hheld.1 (hsm.trans hsm₅)
  have X₅ : KF.In g₅ := XB.keeps K₅.stays
  have P₅ : TopRead p loose mg mb g₅ := topRead_of (TB.keeps K₅.stays)
  obtain ⟨ob, hob, hobc⟩ := hheld.there
  refine wpAny_handleBy_builtin (X := X) (T := T') (b := true) hexc hnt hsub (name_B F₅ X₅ P₅ ex hv hn' ⟨rfl, ⟨ob, hob, hobc⟩, ?_⟩ hk hxk hd)
  refine lands_againW hheld fun h₆ hfl₆ hsm₆ => ?_
  obtain ⟨g₆, T₆, F₆, K₆⟩ := kts_ground K F hBG hfl₆.1 ((hsm.trans hsm₅).trans hsm₆)
  have Nl : News g₆ L h₆ news := fun q hq => ⟨hfl₆.1 _ _ (hBG _ _ (N q hq).1 (nm q hq)), (N q hq).2.1, T₆.none_ _ (N q hq).2.2⟩
  exact wpAny_passesOwnAt hE (k h₆ g₆ (T0.trans T₆) F₆ Nl K₆ (XB.keeps K₆.stays) (TB.keeps K₆.stays) (D.turn T₆))
theorem turn_fr {G G2 : Heap} (K : Below A₀ base outer g) (F : Fr g L G m) (T : KtsTurn ((envOf name scope L a cd :: outer).filterMap (·.frame)) G G2) :
    ∃ g', KtsTurn (outer.filterMap (·.frame)) g g' ∧ Fr g' L G2 m ∧ Below A₀ base outer g' := by
  refine kts_ground (B := hideAll G ((envOf name scope L a cd :: outer).filterMap (·.frame))) (name := name) (scope := scope) (a := a) (cd := cd) K F (fun b o q hm => hideAll_get _ q hm) (fun b o q => ?_) (fun b o e' _ => T.up e')
  refine T.other b o (of_hideAll _ q) fun hm => ?_
  rw [hideAll_none _ hm] at q
  cases q
theorem raised_groundK {A : Around} {h' : Heap} {t : Addr} {cls : Value} {us : List Value} (K : Below A base outer g) (D : KtsDicts (outer.filterMap (·.frame)) g) (R : RaisedS base g outer e cls t us news h') (U : g.UpToSlots h') (hz : g.objs.size ≤ h'.objs.size) :
    ∃ g', KtsTurn (outer.filterMap (·.frame)) g g' ∧ Grd A base outer g' news h' :=
  raised_ground (h := g) (led := []) ⟨K, D, fun _ _ q => q, Nat.le_refl _, fun _ hq => nomatch hq⟩ R U hz
end
end Mine
end

section
open PySem PySem.W PyProof.Rows
set_option Elab.async false
namespace Mine

abbrev Fm := List (List Nat) × List (List Nat) × List (List Nat)
def Sm (l : List (List Nat)) : Prop := l.length ≤ 1000 ∧ ∀ x ∈ l, x.length ≤ 1000
/-- the signs that a class must mark -/
def marks : List Nat := [91, 94, 92, 45, 93]
def encC (c : Nat) : List Nat := if marks.contains c then [92, c] else [c]
def encL (l : List Nat) : List Nat := l.flatMap encC

/-- how the pattern unfolds -/
inductive Unf : List Nat → List Fm → List (List Nat) → Prop
  | fin {d a l} : Sm d → Sm a → Sm l → Unf [] [(d, a, l)] (d ++ joined a l)
  | opn {r f fs out} : r.take 2 ≠ [63, 58] → Unf r (([], [[]], [[]]) :: f :: fs) out → Unf (40 :: r) (f :: fs) out
  | opc {r f fs out} : Unf r (([], [[]], [[]]) :: f :: fs) out → Unf (40 :: 63 :: 58 :: r) (f :: fs) out
  | bar {r d a l fs out} : Sm d → Sm a → Sm l → Unf r ((d ++ joined a l, [[]], [[]]) :: fs) out → Unf (124 :: r) ((d, a, l) :: fs) out
  | opt {r d a l fs out} : r.take 1 ≠ [63] → Sm d → Sm a → Sm l → Unf r ((d, a, l ++ [[]]) :: fs) out → Unf (63 :: r) ((d, a, l) :: fs) out
  | cls {r d a l d' a' l' fs out} : Sm d → Sm a → Sm l → Sm d' → Sm a' → Sm l' → Unf r ((d', joined a' l', d ++ joined a l) :: fs) out → Unf (41 :: r) ((d, a, l) :: (d', a', l') :: fs) out
  | set {r cs d a l fs out} : cs.length ≤ 1000 → Sm d → Sm a → Sm l → Unf r ((d, joined a l, cs.map fun c => [c]) :: fs) out → Unf (91 :: (encL cs ++ 93 :: r)) ((d, a, l) :: fs) out
  | esc {r c d a l fs out} : Sm d → Sm a → Sm l → Unf r ((d, joined a l, [[c]]) :: fs) out → Unf (92 :: c :: r) ((d, a, l) :: fs) out
  | lit {r c d a l fs out} : c ∉ ([40, 124, 63, 123, 125, 42, 43, 46, 94, 36, 93, 41, 91, 92] : List Nat) → Sm d → Sm a → Sm l → Unf r ((d, joined a l, [[c]]) :: fs) out → Unf (c :: r) ((d, a, l) :: fs) out

/-- a list of strs in the ledger -/
def LS (led : List (Addr × Obj)) (a : Addr) (W : List (List Nat)) : Prop := ∃ vs n, (a, listOf (List.toArray vs) n) ∈ led ∧ StrsAre vs (W.map S)
def FS (led : List (Addr × Obj)) (t : Addr) (f : Fm) : Prop := ∃ x y z n, (t, listOf #[.ref x, .ref y, .ref z] n) ∈ led ∧ LS led x f.1 ∧ LS led y f.2.1 ∧ LS led z f.2.2
theorem LS.sub {led led' : List (Addr × Obj)} {a : Addr} {W : List (List Nat)} (h : LS led a W) (hs : ∀ p ∈ led, p ∈ led') : LS led' a W :=
  let ⟨vs, n, m, x⟩ := h; ⟨vs, n, hs _ m, x⟩
theorem FS.sub {led led' : List (Addr × Obj)} {t : Addr} {f : Fm} (h : FS led t f) (hs : ∀ p ∈ led, p ∈ led') : FS led' t f :=
  let ⟨x, y, z, n, m, a, b, c⟩ := h; ⟨x, y, z, n, hs _ m, a.sub hs, b.sub hs, c.sub hs⟩
/-- the frames, the top last -/
inductive FsAre (led : List (Addr × Obj)) : List Value → List Fm → Prop
  | nil : FsAre led [] []
  | snoc {vs t f fs} : FsAre led vs fs → FS led t f → FsAre led (vs ++ [.ref t]) (f :: fs)
theorem FsAre.sub {led led' : List (Addr × Obj)} {vs : List Value} {fs : List Fm} (h : FsAre led vs fs) (hs : ∀ p ∈ led, p ∈ led') : FsAre led' vs fs := by
  induction h with
  | nil => exact .nil
  | snoc _ f ih => exact .snoc ih (f.sub hs)
theorem FsAre.length {led : List (Addr × Obj)} {vs : List Value} {fs : List Fm} (h : FsAre led vs fs) : vs.length = fs.length := by
  induction h with
  | nil => rfl
  | snoc _ _ ih => simp [ih]
theorem FsAre.top {led : List (Addr × Obj)} {vs : List Value} {f : Fm} {fs : List Fm} (h : FsAre led vs (f :: fs)) : ∃ vi t, vs = vi ++ [.ref t] ∧ FsAre led vi fs ∧ FS led t f := by
  cases h with
  | snoc a b => exact ⟨_, _, rfl, a, b⟩

/-- what holds at a turn's start -/
def UnfJ (pat : List Nat) (out : List (List Nat)) (tp : Tok) (n : Nat) (m : PySem.Str → Option Value) (news : List (Addr × Obj)) : Prop :=
  ∃ (pl : Nat) (tq : Tok) (fa : Addr) (vs : List Value) (nf : Nat) (rest : List (Addr × Obj)) (fs : List Fm) (u : PySem.Str → Option Value),
    n = pat.length - pl ∧ pl ≤ pat.length ∧ news = (fa, listOf vs.toArray nf) :: rest ∧ (∀ p ∈ rest, p.1 ≠ fa) ∧ FsAre rest vs fs ∧ fs.length ≤ pl + 1 ∧ Unf (pat.drop pl) fs out ∧
    m = kstB u [(PySem.Str.ofString "pattern", .str (S pat) tp), (PySem.Str.ofString "frames", .ref fa), (PySem.Str.ofString "place", .int (pl : Int) tq)]
theorem fit_kstB {m : PySem.Str → Option Value} {ps : List (PySem.Str × Value)} (h : ∀ p ∈ ps, m p.1 = some p.2) : m = kstB m ps := funext fun _ => (kstB_eq h fun _ => rfl).symm
theorem UnfJ.start {pat : List Nat} {out : List (List Nat)} {tp t0 t1 t2 : Tok} {m : PySem.Str → Option Value} {fa t x y z : Addr} {e1 e2 : PySem.Str}
    (hU : Unf pat [([], [[]], [[]])] out) (h1 : m (PySem.Str.ofString "pattern") = some (.str (S pat) tp)) (h2 : m (PySem.Str.ofString "frames") = some (.ref fa)) (h3 : m (PySem.Str.ofString "place") = some (.int 0 t0))
    (he1 : e1 = PySem.Str.ofString "") (he2 : e2 = PySem.Str.ofString "") (n1 : @LT.lt Nat _ t fa) (n2 : @LT.lt Nat _ x fa) (n3 : @LT.lt Nat _ y fa) (n4 : @LT.lt Nat _ z fa) :
    UnfJ pat out tp pat.length m [(fa, listOf #[.ref t] 0), (t, listOf #[.ref x, .ref y, .ref z] 0), (z, listOf #[.str e2 t2] 0), (y, listOf #[.str e1 t1] 0), (x, listOf #[] 0)] := by
  subst he1 he2
  refine ⟨0, t0, fa, [.ref t], 0, _, [([], [[]], [[]])], m, rfl, Nat.zero_le _, rfl, ?_, ?_, Nat.le_refl _, hU, fit_kstB ?_⟩
  · intro p hp
    simp only [List.mem_cons, List.not_mem_nil, or_false] at hp
    rcases hp with rfl | rfl | rfl | rfl
    · exact Nat.ne_of_lt n1
    · exact Nat.ne_of_lt n4
    · exact Nat.ne_of_lt n3
    · exact Nat.ne_of_lt n2
  · refine FsAre.snoc (vs := []) .nil ⟨x, y, z, 0, .head _, ⟨[], 0, ?_, .nil⟩, ⟨[.str (PySem.Str.ofString "") t1], 0, ?_, .cons _ _ .nil⟩, ⟨[.str (PySem.Str.ofString "") t2], 0, ?_, .cons _ _ .nil⟩⟩ <;> simp
  · intro p hp
    simp only [List.mem_cons, List.not_mem_nil, or_false] at hp
    rcases hp with rfl | rfl | rfl
    · exact h1
    · exact h2
    · exact h3

theorem Unf.ne {r : List Nat} {fs : List Fm} {out : List (List Nat)} (h : Unf r fs out) : ∃ d a l fs', fs = (d, a, l) :: fs' := by
  cases h
  case opn f _ _ _ => exact ⟨f.1, f.2.1, f.2.2, _, rfl⟩
  case opc f _ _ => exact ⟨f.1, f.2.1, f.2.2, _, rfl⟩
  all_goals exact ⟨_, _, _, _, rfl⟩
theorem drop_cons {pat r : List Nat} {pl c : Nat} (h : pat.drop pl = c :: r) : pl < pat.length ∧ Txt.item (S pat) (pl : Int) = S [c] ∧ pat.drop (pl + 1) = r := by
  have h1 : pl < pat.length := by
    refine Classical.byContradiction fun q => ?_
    rw [List.drop_of_length_le (by omega)] at h
    cases h
  rw [List.drop_eq_getElem_cons h1] at h
  injection h with e1 e2
  refine ⟨h1, ?_, e2⟩
  rw [item_S (by omega) (by omega)]
  simp [List.getD_eq_getElem?_getD, h1, e1]

def but (fa : Addr) (led : List (Addr × Obj)) : List (Addr × Obj) := led.filter fun q => decide (q.1 ≠ fa)
theorem mem_but {fa : Addr} {led : List (Addr × Obj)} {p : Addr × Obj} (h : p ∈ led) (hn : p.1 ≠ fa) : p ∈ but fa led := List.mem_filter.mpr ⟨h, decide_eq_true hn⟩
theorem unf_end {h₀ h' : Heap} {L fa : Addr} {s : Shared} {pat : List Nat} {out : List (List Nat)} {tp tq : Tok} {n tk pl nf : Nat} {m₂ : PySem.Str → Option Value} {led : List (Addr × Obj)} {vs : List Value} {fs : List Fm}
    (F : Fr h₀ L h' m₂) (N : News h₀ L h' led) (hfa : (fa, listOf vs.toArray nf) ∈ led) (hfs : FsAre (but fa led) vs fs) (hU : Unf (pat.drop pl) fs out) (hpl : pl ≤ pat.length) (hlt : pat.length - pl < n) (hfl : fs.length ≤ pl + 1)
    (h1 : m₂ (PySem.Str.ofString "pattern") = some (.str (S pat) tp)) (h2 : m₂ (PySem.Str.ofString "frames") = some (.ref fa)) (h3 : m₂ (PySem.Str.ofString "place") = some (.int (pl : Int) tq)) :
    WhileStep h₀ L s (UnfJ pat out tp) n .next { s with heap := h', toks := tk } := by
  refine WhileStep.intro F (news₂ := (fa, listOf vs.toArray nf) :: but fa led) (n' := pat.length - pl) (fun p hp => ?_) hlt ⟨pl, tq, fa, vs, nf, but fa led, fs, m₂, rfl, hpl, rfl, ?_, hfs, hfl, hU, fit_kstB ?_⟩
  · rcases List.mem_cons.mp hp with rfl | hp
    · exact N _ hfa
    · exact N _ (List.mem_filter.mp hp).1
  · exact fun p hp => of_decide_eq_true (List.mem_filter.mp hp).2
  · intro p hp
    simp only [List.mem_cons, List.not_mem_nil, or_false] at hp
    rcases hp with rfl | rfl | rfl
    · exact h1
    · exact h2
    · exact h3
theorem unf_open {h₀ h' : Heap} {L fa D x y z : Addr} {s : Shared} {pat : List Nat} {out : List (List Nat)} {tp tq t1 t2 : Tok} {n tk pl nf : Nat} {m₂ : PySem.Str → Option Value} {rest : List (Addr × Obj)} {vs : List Value} {fs : List Fm} {p' : Int}
    (F : Fr h₀ L h' m₂) (N : News h₀ L h' ((D, listOf #[.ref x, .ref y, .ref z] 0) :: (z, listOf #[.str (PySem.Str.ofString "") t2] 0) :: (y, listOf #[.str (PySem.Str.ofString "") t1] 0) :: (x, listOf #[] 0) :: (fa, listOf (vs.toArray.push (.ref D)) nf) :: rest))
    (hoff : ∀ p ∈ rest, p.1 ≠ fa) (hfs : FsAre rest vs fs) (n1 : @LT.lt Nat _ fa x) (n2 : @LT.lt Nat _ fa y) (n3 : @LT.lt Nat _ fa z) (n4 : @LT.lt Nat _ fa D)
    (hU : Unf (pat.drop pl) (([], [[]], [[]]) :: fs) out) (hpl : pl ≤ pat.length) (hlt : pat.length - pl < n) (hfl : fs.length ≤ pl)
    (h1 : m₂ (PySem.Str.ofString "pattern") = some (.str (S pat) tp)) (h2 : m₂ (PySem.Str.ofString "frames") = some (.ref fa)) (h3 : m₂ (PySem.Str.ofString "place") = some (.int p' tq)) (hp : p' = pl) :
    WhileStep h₀ L s (UnfJ pat out tp) n .next { s with heap := h', toks := tk } := by
  subst hp
  rw [List.push_toArray] at N
  have up : ∀ {q : Addr × Obj} {led : List (Addr × Obj)}, q ∈ led → @LT.lt Nat _ fa q.1 → q ∈ but fa led := fun h hn => mem_but h (Nat.ne_of_gt hn)
  refine unf_end F N (vs := vs ++ [.ref D]) (nf := nf) (by simp) (FsAre.snoc (f := ([], [[]], [[]])) (hfs.sub fun p hp => mem_but (by simp [hp]) (hoff p hp)) ⟨x, y, z, 0, up (by simp) n4, ⟨[], 0, up (by simp) n1, .nil⟩, ⟨[.str (PySem.Str.ofString "") t1], 0, up (by simp) n2, .cons _ _ .nil⟩, ⟨[.str (PySem.Str.ofString "") t2], 0, up (by simp) n3, .cons _ _ .nil⟩⟩) hU hpl hlt (by simpa using hfl) h1 h2 h3
theorem drop_two {pat r : List Nat} {pl : Nat} (h : pat.drop pl = r) (k : Nat) : Txt.slice (S pat) (some (pl : Int)) (some ((pl : Int) + k)) = S (r.take k) := by
  rw [slice_two (by omega) (by omega)]
  subst h
  congr 1
  have : ((pl : Int) + k - pl).toNat = k := by omega
  rw [this]
  simp

section
variable {w : World} {dp un : Nat} {fr : Option (List Env)} {gd : Option (List Code)} {s : Shared} {h₀ : Heap} {L : Addr} {m : PySem.Str → Option Value} {led : List (Addr × Obj)} {loose : List PySem.Str} {mean : ExcName → Option Value} {mg mb : PySem.Str → Option Value}
theorem joined_N {Q E : Value → Shared → Prop} {y z : Addr} {vy vz : List Value} {ny nz : Nat} {a l : List (List Nat)}
   (X : (KF w).In h₀) (T : Top PySem.W.topProg loose mean mg mb h₀) (hd : dp < 900) (F : Fr h₀ L s.heap m) (N : News h₀ L s.heap led) (hy : (y, listOf vy.toArray ny) ∈ led) (hz : (z, listOf vz.toArray nz) ∈ led)
   (sy : StrsAre vy (a.map S)) (sz : StrsAre vz (l.map S)) (ha : Sm a) (hl : Sm l)
   (k : ∀ D vs' n h' tk, Fr h₀ L h' m → News h₀ L h' ((D, listOf (List.toArray vs') n) :: led) → (∀ p ∈ led, p.1 < D) → StrsAre vs' ((joined a l).map S) → vs'.length ≤ 1000000 → Q (.ref D) { s with heap := h', toks := tk }) :
   wpAny (model PR w) (At dp fr gd un) (call (.ref 192) [.ref y, .ref z]) Q E s := by
  have hal : a.length * l.length ≤ 1000000 := Nat.mul_le_mul ha.1 hl.1
  refine joined_spec (X.keeps F.keep) (T.keeps F.keep) hd (PySem.IsL.isList (N.get hy)) sy (PySem.IsL.isList (N.get hz)) sz (fun u hu => Nat.le_trans (ha.2 u hu) (by omega)) (fun u hu => Nat.le_trans (hl.2 u hu) (by omega)) hal fun h' tk D vs' n hD hge hS hk => ?_
  refine k D vs' n h' tk ⟨F.ns.keeps hk, fun b o e => hk b o (F.keep b o e), F.above⟩ ?_ (fun p hp => Nat.lt_of_lt_of_le (Heap.lt_size (N p hp).1) hge) hS ?_
  · intro p hp
    rcases List.mem_cons.mp hp with rfl | hp
    · refine ⟨hD, Nat.ne_of_gt (Nat.lt_of_lt_of_le F.ns.lt hge), Heap.get?_none_of_le (Nat.le_trans ?_ hge)⟩
      exact Nat.le_trans F.above (Nat.le_of_lt F.ns.lt)
    · exact ⟨hk _ _ (N p hp).1, (N p hp).2⟩
  · have := StrsAre.length hS
    rw [List.length_map, joined_length] at this
    omega
theorem add_N {A : Around} {Q E : Value → Shared → Prop} {x y : Addr} {vx vy : List Value} {nx ny : Nat} (F : Fr h₀ L s.heap m) (N : News h₀ L s.heap led) (hx : (x, listOf vx.toArray nx) ∈ led) (hy : (y, listOf vy.toArray ny) ∈ led) (hsz : vx.length + vy.length ≤ 2000000)
   (k : ∀ D h', Fr h₀ L h' m → News h₀ L h' ((D, listOf (List.toArray (vx ++ vy)) 0) :: led) → (∀ p ∈ led, p.1 < D) → Q (.ref D) { s with heap := h' }) :
   wpAny (model PR w) A (binaryOp .Add (.ref x) (.ref y)) Q E s :=
  kmk_add_lit F N (PySem.IsL.isList (N.get hx)) (PySem.IsL.isList (N.get hy)) (by simp) k (by simp [sizeLine]; omega)
theorem set_top {A : Around} {Q : Unit → Shared → Prop} {E : Value → Shared → Prop} {fa t D : Addr} {vi : List Value} {n : Nat} {tt : Tok} {led' : List (Addr × Obj)} (F : Fr h₀ L s.heap m) (N : News h₀ L s.heap led)
   (U : Upd fa (listOf (vi ++ [Value.ref t]).toArray n) (listOf (vi ++ [Value.ref D]).toArray n) led led') (hsz : vi.length ≤ 2000000) (k : ∀ h', Fr h₀ L h' m → News h₀ L h' led' → Q () { s with heap := h' }) :
   wpAny (model PR w) A (setItem (.ref fa) (.int (-1) tt) (.ref D)) Q E s := by
  obtain ⟨pre, post, rfl, rfl, a, b⟩ := U.split
  have z := N (fa, listOf (vi ++ [Value.ref t]).toArray n) (List.mem_append.mpr (.inr (.head _)))
  have e : ((-1 : Int) + ((vi ++ [Value.ref t]).toArray.size : Int)).toNat = vi.length := by simp; omega
  refine ki_setBack z.1 (by decide) (by simp; omega) (by decide) (k _ (F.change (Heap.SameBut.update ..) z.2.1 z.2.2) (ki_turn _ N a b ?_ ?_))
  · rw [e]; simp
  · simp
theorem pop_top {A : Around} {Q E : Value → Shared → Prop} {fa : Addr} {vi : List Value} {y : Value} {n : Nat} {led' : List (Addr × Obj)} (F : Fr h₀ L s.heap m) (N : News h₀ L s.heap led)
   (U : Upd fa (listOf (vi ++ [y]).toArray n) (listOf vi.toArray (n + 1)) led led') (hsz : vi.length ≤ 2000000) (k : ∀ h', Fr h₀ L h' m → News h₀ L h' led' → Q y { s with heap := h' }) :
   wpAny (model PR w) A (call (.builtin "list.pop") [.ref fa]) Q E s := by
  refine kl_pop (p := vi) (y := y) F N ?_ U (by simp [sizeLine]; omega) k
  have : ∀ l : List Value, kl_last (l ++ [y]) = some (l, y) := by
    intro l
    induction l with
    | nil => rfl
    | cons x r ih => show (match kl_last (r ++ [y]) with | some (p, y) => some (x :: p, y) | none => some ([], x)) = _; rw [ih]
  simpa using this vi
theorem unf_set {h' : Heap} {fa D x y z : Addr} {pat : List Nat} {out : List (List Nat)} {tp tq : Tok} {n tk pl nf nt : Nat} {m₂ : PySem.Str → Option Value} {rest : List (Addr × Obj)} {vi : List Value} {fs : List Fm} {d a l : List (List Nat)} {p' : Int}
    (F : Fr h₀ L h' m₂) (N : News h₀ L h' led) (hfa : (fa, listOf (vi ++ [Value.ref D]).toArray nf) ∈ led) (hD : (D, listOf #[.ref x, .ref y, .ref z] nt) ∈ led) (hDf : D ≠ fa) 
    (hr : ∀ p ∈ rest, p ∈ led) (hoff : ∀ p ∈ rest, p.1 ≠ fa) (hfs : FsAre rest vi fs) (hx : LS (but fa led) x d) (hy : LS (but fa led) y a) (hz : LS (but fa led) z l)
    (hU : Unf (pat.drop pl) ((d, a, l) :: fs) out) (hpl : pl ≤ pat.length) (hlt : pat.length - pl < n) (hfl : fs.length ≤ pl)
    (h1 : m₂ (PySem.Str.ofString "pattern") = some (.str (S pat) tp)) (h2 : m₂ (PySem.Str.ofString "frames") = some (.ref fa)) (h3 : m₂ (PySem.Str.ofString "place") = some (.int p' tq)) (hp : p' = pl) :
    WhileStep h₀ L s (UnfJ pat out tp) n .next { s with heap := h', toks := tk } := by
  subst hp
  exact unf_end F N (vs := vi ++ [.ref D]) (nf := nf) hfa (FsAre.snoc (f := (d, a, l)) (hfs.sub fun p hp => mem_but (hr p hp) (hoff p hp)) ⟨x, y, z, nt, mem_but hD hDf, hx, hy, hz⟩) hU hpl hlt (by simpa using hfl) h1 h2 h3
end

theorem ite_no {b : Bool} {P Q : Prop} (h : b = false) (q : Q) : if b = true then P else Q := by subst h; exact q
theorem S_one {c d : Nat} (h : ¬ c = d) : (S [c] == S [d]) = false := by
  refine Bool.eq_false_iff.mpr fun q => h ?_
  have := S_inj (by simpa using q : S [c] = S [d])
  simpa using this

theorem no_stop {c : Nat} (h : c ∉ ([123, 125, 42, 43, 46, 94, 36, 93] : List Nat)) : (!(Builtin.Str.occurrences (PySem.Str.ofString "{}*+.^$]") (S [c]) 0 (PySem.Str.ofString "{}*+.^$]").length 1).isEmpty) = false := by
  rw [show S [c] = (⟨#[c]⟩ : PySem.Str) from rfl, PySem.StrLaws.found_one]
  exact decide_eq_false h
theorem no_mark {c : Nat} (h : c ∉ ([94, 45, 91] : List Nat)) : (!(Builtin.Str.occurrences (PySem.Str.ofString "^-[") (S [c]) 0 (PySem.Str.ofString "^-[").length 1).isEmpty) = false := by
  rw [show S [c] = (⟨#[c]⟩ : PySem.Str) from rfl, PySem.StrLaws.found_one]
  exact decide_eq_false h

theorem ite_yes {b : Bool} {P Q : Prop} (h : b = true) (p : P) : if b = true then P else Q := by subst h; exact p
theorem allLt_ne {D : Nat} : ∀ {l : List (Addr × Obj)}, AllLt D l → ∀ p ∈ l, p.1 ≠ D
  | [], _, _, h => nomatch h
  | q :: r, h, p, hp => by
    rcases List.mem_cons.mp hp with rfl | hp
    · exact Nat.ne_of_lt h.1
    · exact allLt_ne h.2 p hp
/-- the class's loop: what is still to come -/
def ClsJ (pat : List Nat) (tp : Tok) (pl : Nat) (P fa : Addr) (vs : List Value) (nf : Nat) (rest : List (Addr × Obj)) (cs r : List Nat) (n : Nat) (m : PySem.Str → Option Value) (news : List (Addr × Obj)) : Prop :=
  ∃ (pl2 : Nat) (tq : Tok) (vp : List Value) (np : Nat) (cs1 cs2 : List Nat) (u : PySem.Str → Option Value),
    cs = cs1 ++ cs2 ∧ n = cs2.length ∧ news = (P, listOf vp.toArray np) :: (fa, listOf vs.toArray nf) :: rest ∧ pl < pl2 ∧ pat.drop pl2 = encL cs2 ++ 93 :: r ∧ StrsAre vp ((cs1.map fun c => [c]).map S) ∧
    m = kstB u [(PySem.Str.ofString "pattern", .str (S pat) tp), (PySem.Str.ofString "frames", .ref fa), (PySem.Str.ofString "place", .int (pl2 : Int) tq), (PySem.Str.ofString "piece", .ref P)]
theorem ClsJ.start {pat : List Nat} {tp tq : Tok} {pl nf : Nat} {P fa : Addr} {vs : List Value} {rest : List (Addr × Obj)} {cs r : List Nat} {m : PySem.Str → Option Value} (hd : pat.drop (pl + 1) = encL cs ++ 93 :: r)
    (h1 : m (PySem.Str.ofString "pattern") = some (.str (S pat) tp)) (h2 : m (PySem.Str.ofString "frames") = some (.ref fa)) (h3 : m (PySem.Str.ofString "place") = some (.int ((pl : Int) + 1) tq)) (h4 : m (PySem.Str.ofString "piece") = some (.ref P)) :
    ClsJ pat tp pl P fa vs nf rest cs r cs.length m ((P, listOf #[] 0) :: (fa, listOf vs.toArray nf) :: rest) := by
  refine ⟨pl + 1, tq, [], 0, [], cs, m, rfl, rfl, rfl, Nat.lt_succ_self _, hd, .nil, fit_kstB ?_⟩
  intro p hp
  simp only [List.mem_cons, List.not_mem_nil, or_false] at hp
  rcases hp with rfl | rfl | rfl | rfl
  · exact h1
  · exact h2
  · exact h3
  · exact h4
theorem cls_end {h₀ h' : Heap} {L P fa : Addr} {s : Shared} {pat : List Nat} {tp tq tx : Tok} {pl pl2 nf np tk n : Nat} {vs vp : List Value} {rest : List (Addr × Obj)} {cs cs1 cs2 r : List Nat} {c : Nat} {m : PySem.Str → Option Value} {x : PySem.Str} {p' : Int}
    (F : Fr h₀ L h' m) (N : News h₀ L h' ((P, listOf (vp.toArray.push (.str x tx)) np) :: (fa, listOf vs.toArray nf) :: rest)) (hc : cs = cs1 ++ c :: cs2) (hx : x = S [c]) (hpl : pl < pl2) (hd : pat.drop pl2 = encL cs2 ++ 93 :: r) (hS : StrsAre vp ((cs1.map fun c => [c]).map S)) (hn : n = cs2.length + 1)
    (h1 : m (PySem.Str.ofString "pattern") = some (.str (S pat) tp)) (h2 : m (PySem.Str.ofString "frames") = some (.ref fa)) (h3 : m (PySem.Str.ofString "place") = some (.int p' tq)) (h4 : m (PySem.Str.ofString "piece") = some (.ref P)) (hp : p' = pl2) :
    WhileStep h₀ L s (ClsJ pat tp pl P fa vs nf rest cs r) n .next { s with heap := h', toks := tk } := by
  subst hp hx hn
  rw [List.push_toArray] at N
  refine WhileStep.intro F N (Nat.lt_succ_self _) ⟨pl2, tq, _, np, cs1 ++ [c], cs2, m, by rw [hc, List.append_assoc]; rfl, rfl, rfl, hpl, hd, ?_, fit_kstB ?_⟩
  · rw [List.map_append, List.map_append]
    exact hS.append' (.cons _ _ .nil)
  · intro p hp
    simp only [List.mem_cons, List.not_mem_nil, or_false] at hp
    rcases hp with rfl | rfl | rfl | rfl
    · exact h1
    · exact h2
    · exact h3
    · exact h4
theorem S_two {c d : Nat} (h : ¬ c = d) : (S [c] != S [d]) = true := by
  show (!(S [c] == S [d])) = true
  rw [S_one h]; rfl
theorem encL_mark {c : Nat} {cs r : List Nat} (h : marks.contains c = true) : encL (c :: cs) ++ 93 :: r = 92 :: c :: (encL cs ++ 93 :: r) := by
  simp only [encL, List.flatMap_cons, encC]; rw [if_pos h]; rfl
theorem encL_plain {c : Nat} {cs r : List Nat} (h : ¬ marks.contains c = true) : encL (c :: cs) ++ 93 :: r = c :: (encL cs ++ 93 :: r) := by
  simp only [encL, List.flatMap_cons, encC]; rw [if_neg h]; rfl
end Mine
end

section
open PySem PySem.W PyProof.Rows
set_option Elab.async false
namespace Mine

def GRP : List Nat := [40, 63, 58]
def cl (p : List Nat) : List Nat := if p = [] then [] else [41]
/-- the body of a pattern, and the words that it has, in the order in which they are tried -/
inductive Cx : List (List Nat) → List Nat → List (List Nat) → Prop
  | one (x) : Cx [x] (escL x) [x]
  | opt {tl X W} : Cx tl X W → Cx ([] :: tl) (GRP ++ X ++ [41] ++ [63]) (W ++ [[]])
  | set {ws} : ws ≠ [] → (∀ x ∈ ws, x.length = 1) → Cx ws ([91] ++ encL ws.flatten ++ [93]) ws
  | sets {ws X W} : (∀ x ∈ ws, x ≠ []) → (ws.filter fun x => x.length == 1) ≠ [] → Cx (ws.filter fun x => !(x.length == 1)) X W → Cx ws (X ++ [124] ++ ([91] ++ encL (ws.filter fun x => x.length == 1).flatten ++ [93])) (W ++ ws.filter fun x => x.length == 1)
  | pre {ws X W} (q : List Nat) : q ≠ [] → (∀ x ∈ ws, x.take q.length = q) → Cx (ws.map fun x => x.drop q.length) X W → Cx ws (escL q ++ (GRP ++ X ++ [41])) (W.map fun x => q ++ x)
  | suf {ws ws2 X W} (q : List Nat) : q ≠ [] → (∀ x ∈ ws, ∃ y, x = y ++ q) → List.Perm ws2 (ws.map fun x => x.take (x.length - q.length)) → Cx ws2 X W → Cx ws ((GRP ++ X ++ [41]) ++ escL q) (W.map fun x => x ++ q)
  | grp {g1 g2 : List (List Nat)} {X1 W1 X2 W2} (c : Nat) : g1 ≠ [] → g2 ≠ [] → (∀ x ∈ g1, x.head? = some c) → (∀ x ∈ g2, x ≠ [] ∧ x.head? ≠ some c) → Cx g1 X1 W1 → Cx g2 X2 W2 → Cx (g1 ++ g2) (X1 ++ [124] ++ X2) (W1 ++ W2)

def msr (ws : List (List Nat)) : Nat := (ws.map fun x => x.length + 1).sum
/-- sorted, each once, and small -/
structure Srt (ws : List (List Nat)) : Prop where
  sorted : ws.Pairwise fun a b => a < b
  size : ws.length ≤ 60
  short : ∀ x ∈ ws, x.length ≤ 100

theorem escC_len (c : Nat) : (escC c).length ≤ 2 := by unfold escC; split <;> simp
theorem escL_len : ∀ x : List Nat, (escL x).length ≤ 2 * x.length
  | [] => Nat.le_refl _
  | c :: r => by
    have h1 := escL_len r
    have h2 := escC_len c
    have e : escL (c :: r) = escC c ++ escL r := rfl
    rw [e, List.length_append, List.length_cons]; omega
theorem encC_len (c : Nat) : (encC c).length ≤ 2 := by unfold encC; split <;> simp
theorem encL_len : ∀ x : List Nat, (encL x).length ≤ 2 * x.length
  | [] => Nat.le_refl _
  | c :: r => by
    have h1 := encL_len r
    have h2 := encC_len c
    have e : encL (c :: r) = encC c ++ encL r := rfl
    rw [e, List.length_append, List.length_cons]; omega
theorem msr_cons (x : List Nat) (r : List (List Nat)) : msr (x :: r) = x.length + 1 + msr r := by simp [msr]
theorem msr_append (a b : List (List Nat)) : msr (a ++ b) = msr a + msr b := by simp [msr]
theorem msr_perm {a b : List (List Nat)} (h : List.Perm a b) : msr a = msr b := (h.map _).sum_nat
theorem msr_filter (q : List Nat → Bool) : ∀ ws : List (List Nat), msr (ws.filter q) + msr (ws.filter fun x => !q x) = msr ws
  | [] => rfl
  | x :: r => by
    have := msr_filter q r
    rw [List.filter_cons, List.filter_cons]
    cases h : q x <;> simp only [Bool.not_true, Bool.not_false, if_true, Bool.false_eq_true, if_false, msr_cons] <;> omega
theorem msr_ones : ∀ {ws : List (List Nat)}, (∀ x ∈ ws, x.length = 1) → msr ws = 2 * ws.length ∧ ws.flatten.length = ws.length
  | [], _ => ⟨rfl, rfl⟩
  | x :: r, h => by
    obtain ⟨h1, h2⟩ := msr_ones fun y hy => h y (List.mem_cons_of_mem _ hy)
    have hx := h x (List.mem_cons_self ..)
    rw [msr_cons, List.flatten_cons, List.length_append, List.length_cons]
    omega
theorem msr_drop (k : Nat) : ∀ {ws : List (List Nat)}, (∀ x ∈ ws, k ≤ x.length) → msr (ws.map fun x => x.drop k) + k * ws.length = msr ws
  | [], _ => rfl
  | x :: r, h => by
    have h1 := msr_drop k (ws := r) fun y hy => h y (List.mem_cons_of_mem _ hy)
    have hx := h x (List.mem_cons_self ..)
    rw [List.map_cons, msr_cons, msr_cons, List.length_drop, List.length_cons, Nat.mul_succ]
    omega
theorem msr_take (k : Nat) : ∀ {ws : List (List Nat)}, (∀ x ∈ ws, k ≤ x.length) → msr (ws.map fun x => x.take (x.length - k)) + k * ws.length = msr ws
  | [], _ => rfl
  | x :: r, h => by
    have h1 := msr_take k (ws := r) fun y hy => h y (List.mem_cons_of_mem _ hy)
    have hx := h x (List.mem_cons_self ..)
    rw [List.map_cons, msr_cons, msr_cons, List.length_take, List.length_cons, Nat.mul_succ]
    omega
theorem len_of_take {q x : List Nat} (h : x.take q.length = q) : q.length ≤ x.length := by
  have := congrArg List.length h
  rw [List.length_take] at this
  omega
theorem Cx.ne {ws : List (List Nat)} {X : List Nat} {W : List (List Nat)} (h : Cx ws X W) : ws ≠ [] := by
  induction h with
  | one => simp
  | opt => simp
  | set h => exact h
  | sets _ h _ => intro q; subst q; exact h rfl
  | pre _ _ _ _ ih => intro q; subst q; exact ih rfl
  | suf _ _ _ hp _ ih => intro q; subst q; exact ih (List.Perm.eq_nil hp)
  | grp _ h1 _ _ _ _ _ => intro q; exact h1 (List.append_eq_nil_iff.mp q).1
theorem Cx.len {ws : List (List Nat)} {X : List Nat} {W : List (List Nat)} (h : Cx ws X W) : X.length + 1 ≤ 8 * msr ws := by
  induction h with
  | one x => have := escL_len x; rw [msr_cons]; simp only [msr, List.map_nil, List.sum_nil]; omega
  | opt h ih => rw [msr_cons]; simp only [GRP, List.length_append, List.length_cons, List.length_nil]; omega
  | @set ws h h1 =>
    obtain ⟨e1, e2⟩ := msr_ones h1
    have := encL_len ws.flatten
    have : 0 < ws.length := List.length_pos_iff.mpr h
    simp only [List.length_append, List.length_cons, List.length_nil]; omega
  | @sets ws X W _ h _ ih =>
    obtain ⟨e1, e2⟩ := msr_ones (ws := ws.filter fun x => x.length == 1) fun x hx => by simpa using (List.mem_filter.mp hx).2
    have := encL_len (ws.filter fun x => x.length == 1).flatten
    have h0 : 0 < (ws.filter fun x => x.length == 1).length := List.length_pos_iff.mpr h
    have := msr_filter (fun x => x.length == 1) ws
    simp only [List.length_append, List.length_cons, List.length_nil]; omega
  | @pre ws X W q h1 h2 hc ih =>
    have hl := escL_len q
    have := msr_drop q.length (ws := ws) fun x hx => len_of_take (h2 x hx)
    have h0 : 0 < ws.length := by
      have := hc.ne
      cases ws with
      | nil => exact absurd rfl this
      | cons => simp
    have hq : 0 < q.length := List.length_pos_iff.mpr h1
    have hm : q.length * 1 ≤ q.length * ws.length := Nat.mul_le_mul_left _ h0
    simp only [GRP, List.length_append, List.length_cons, List.length_nil]; omega
  | @suf ws ws2 X W q h1 h2 hp hc ih =>
    have hl := escL_len q
    have := msr_take q.length (ws := ws) fun x hx => by obtain ⟨y, rfl⟩ := h2 x hx; simp
    rw [msr_perm hp] at ih
    have h0 : 0 < ws.length := by
      have hn := hc.ne
      cases ws with
      | nil => exact absurd (List.Perm.eq_nil hp) hn
      | cons => simp
    have hq : 0 < q.length := List.length_pos_iff.mpr h1
    have hm : q.length * 1 ≤ q.length * ws.length := Nat.mul_le_mul_left _ h0
    simp only [GRP, List.length_append, List.length_cons, List.length_nil]; omega
  | grp c h1 h2 h3 h4 _ _ ih1 ih2 => rw [msr_append]; simp only [List.length_append, List.length_cons, List.length_nil]; omega

theorem Srt.tail {x : List Nat} {tl : List (List Nat)} (h : Srt (x :: tl)) : Srt tl :=
  ⟨(List.pairwise_cons.mp h.sorted).2, Nat.le_trans (Nat.le_succ _) h.size, fun y hy => h.short y (List.mem_cons_of_mem _ hy)⟩
theorem Srt.sublist {a b : List (List Nat)} (h : Srt b) (hs : List.Sublist a b) : Srt a :=
  ⟨h.sorted.sublist hs, Nat.le_trans hs.length_le h.size, fun y hy => h.short y (hs.subset hy)⟩

theorem pre_between : ∀ {q a b z : List Nat}, a.take q.length = q → b.take q.length = q → ¬ z < a → ¬ b < z → z.take q.length = q
  | [], _, _, _, _, _, _, _ => rfl
  | c :: q, a, b, z, ha, hb, h1, h2 => by
    cases a with
    | nil => simp at ha
    | cons a0 a =>
      cases b with
      | nil => simp at hb
      | cons b0 b =>
        simp only [List.length_cons, List.take_succ_cons, List.cons.injEq] at ha hb
        obtain ⟨rfl, ha⟩ := ha
        obtain ⟨rfl, hb⟩ := hb
        cases z with
        | nil => exact absurd (List.nil_lt_cons _ _) h1
        | cons d z =>
          rw [List.cons_lt_cons_iff] at h1 h2
          have e : d = b0 := by
            have g1 : ¬ d < b0 := fun h => h1 (.inl h)
            have g2 : ¬ b0 < d := fun h => h2 (.inl h)
            omega
          subst e
          rw [List.length_cons, List.take_succ_cons, pre_between ha hb (fun h => h1 (.inr ⟨rfl, h⟩)) fun h => h2 (.inr ⟨rfl, h⟩)]
theorem lcp_left : ∀ a b : List Nat, a.take (lcp a b).length = lcp a b
  | [], b => by cases b <;> simp [lcp]
  | x :: r, [] => by simp [lcp]
  | x :: r, y :: t => by
    have := lcp_left r t
    unfold lcp
    split
    · simp [this]
    · simp
theorem lcp_right : ∀ a b : List Nat, b.take (lcp a b).length = lcp a b
  | [], b => by cases b <;> simp [lcp]
  | x :: r, [] => by simp [lcp]
  | x :: r, y :: t => by
    have := lcp_right r t
    unfold lcp
    split
    · rename_i h; simp [this, h]
    · simp
theorem drop_lt : ∀ {q y z : List Nat}, y.take q.length = q → z.take q.length = q → y < z → y.drop q.length < z.drop q.length
  | [], _, _, _, _, h => h
  | c :: q, y, z, hy, hz, h => by
    cases y with
    | nil => simp at hy
    | cons y0 y =>
      cases z with
      | nil => simp at hz
      | cons z0 z =>
        simp only [List.length_cons, List.take_succ_cons, List.cons.injEq] at hy hz
        obtain ⟨rfl, hy⟩ := hy
        obtain ⟨rfl, hz⟩ := hz
        rw [List.cons_lt_cons_iff] at h
        rcases h with h | ⟨_, h⟩
        · omega
        · simpa using drop_lt hy hz h
theorem Srt.drop {ws : List (List Nat)} {q : List Nat} (h : Srt ws) (hq : ∀ z ∈ ws, z.take q.length = q) : Srt (ws.map fun z => z.drop q.length) := by
  refine ⟨?_, by rw [List.length_map]; exact h.size, fun y hy => ?_⟩
  · rw [List.pairwise_map]
    exact h.sorted.imp_of_mem fun {a b} ha hb hab => drop_lt (hq a ha) (hq b hb) hab
  · obtain ⟨z, hz, rfl⟩ := List.mem_map.mp hy
    rw [List.length_drop]
    have := h.short z hz
    omega

theorem S_cps (y : PySem.Str) : S y.cps.toList = y := rfl
theorem perm_S {ss : List PySem.Str} {W : List (List Nat)} (h : ss.Perm (W.map S)) : ∃ ws : List (List Nat), ss = ws.map S ∧ ws.Perm W := by
  refine ⟨ss.map fun y => y.cps.toList, ?_, ?_⟩
  · rw [List.map_map]
    exact (List.map_id' ss).symm
  · have := h.map fun y => y.cps.toList
    rw [List.map_map] at this
    have e : (W.map ((fun y : PySem.Str => y.cps.toList) ∘ S)) = W := List.map_id' W
    rw [e] at this
    exact this
theorem rising_pair : ∀ {l : List (List Nat)} {p : List Nat}, risingS (S p) (l.map S) = true → (p :: l).Pairwise fun a b => ¬ b < a := by
  intro l
  induction l with
  | nil => intro p _; simp
  | cons q r ih =>
    intro p h
    rw [List.map_cons, risingS] at h
    simp only [Bool.and_eq_true, Bool.not_eq_true'] at h
    have hq := ih h.2
    have hpq : ¬ q < p := fun hlt => by
      have h0 := h.1
      have h1 : PySem.Spec.ltCps q p = false := by cases e : PySem.Spec.ltCps (S q).cps.toList (S p).cps.toList with
        | false => exact e
        | true => rw [e] at h0; simp at h0
      rw [ltCps_eq, decide_eq_true hlt] at h1
      cases h1
    refine List.pairwise_cons.mpr ⟨fun b hb => ?_, hq⟩
    rcases List.mem_cons.mp hb with rfl | hb
    · exact hpq
    · have := (List.pairwise_cons.mp hq).1 b hb
      intro hlt
      have h1 : p ≤ q := List.not_lt.mp hpq
      have h2 : q ≤ b := List.not_lt.mp this
      exact absurd hlt (List.not_lt.mpr (List.le_trans h1 h2))
theorem sortedS_pair {l : List (List Nat)} (h : sortedS (l.map S) = true) : l.Pairwise fun a b => ¬ b < a := by
  cases l with
  | nil => simp
  | cons p r => exact rising_pair h
theorem Srt.of {ws W : List (List Nat)} (hs : ws.Pairwise fun a b => ¬ b < a) (hp : ws.Perm W) (hn : W.Nodup) (hz : W.length ≤ 60) (hl : ∀ x ∈ W, x.length ≤ 100) : Srt ws := by
  refine ⟨?_, by rw [hp.length_eq]; exact hz, fun x hx => hl x (hp.mem_iff.mp hx)⟩
  have hn' : ws.Nodup := hp.nodup_iff.mpr hn
  have : ws.Pairwise fun a b => ¬ b < a ∧ a ≠ b := List.Pairwise.and hs hn'
  refine this.imp fun {a b} h => ?_
  refine Classical.byContradiction fun q => ?_
  exact h.2 (List.le_antisymm (List.not_lt.mp h.1) (List.not_lt.mp q))
theorem suf_of {z q : List Nat} (h : z.reverse.take q.length = q) : z = z.take (z.length - q.reverse.length) ++ q.reverse := by
  have h1 : z.reverse = q ++ z.reverse.drop q.length := by
    have := List.take_append_drop q.length z.reverse
    rw [h] at this
    exact this.symm
  have h2 : z = (z.reverse.drop q.length).reverse ++ q.reverse := by
    have := congrArg List.reverse h1
    rw [List.reverse_reverse, List.reverse_append] at this
    exact this
  have hlen : z.length - q.reverse.length = (z.reverse.drop q.length).reverse.length := by
    have := congrArg List.length h2
    rw [List.length_append] at this
    omega
  rw [hlen]
  conv => lhs; rw [h2]
  congr 1
  conv => rhs; arg 2; rw [h2]
  exact (List.take_left ..).symm
theorem Srt.nodup {ws : List (List Nat)} (h : Srt ws) : ws.Nodup := h.sorted.imp fun hlt he => by rw [he] at hlt; exact List.lt_irrefl _ hlt
theorem nodup_cut {ws : List (List Nat)} {q : List Nat} (hn : ws.Nodup) (hq : ∀ z ∈ ws, z = z.take (z.length - q.length) ++ q) : (ws.map fun z => z.take (z.length - q.length)).Nodup := by
  refine List.pairwise_map.mpr (hn.imp_of_mem fun {a b} ha hb hab he => hab ?_)
  rw [hq a ha, hq b hb, he]
end Mine
end

section
open PySem PySem.W PyProof.Rows
set_option Elab.async false
namespace Mine
def ForStep (h₀ : Heap) (L : Addr) (s : Shared) (J : Nat → (PySem.Str → Option Value) → List (Addr × Obj) → Prop) (i : Nat) (I : Addr) (oI : Obj) (f : Flow) (s₃ : Shared) : Prop :=
  f = .next ∧ ∃ h' tk m₂ led₂, s₃ = { s with heap := h', toks := tk } ∧ Fr h₀ L h' m₂ ∧ News h₀ L h' ((I, oI) :: led₂) ∧ J (i + 1) m₂ led₂
theorem ForStep.of {h₀ h' : Heap} {L : Addr} {s : Shared} {J : Nat → (PySem.Str → Option Value) → List (Addr × Obj) → Prop} {i tk : Nat} {I : Addr} {oI : Obj} {m₂ : PySem.Str → Option Value} {led₂ led' : List (Addr × Obj)}
  (F : Fr h₀ L h' m₂) (N : News h₀ L h' led') (hs : ∀ q ∈ (I, oI) :: led₂, q ∈ led') (hJ : J (i + 1) m₂ led₂) : ForStep h₀ L s J i I oI .next { s with heap := h', toks := tk } := ⟨rfl, h', tk, m₂, led₂, rfl, F, fun q hq => N q (hs q hq), hJ⟩
section
variable {prog : Program} {w : World} {A : Around} {E : Value → Shared → Prop} {Q : Flow → Shared → Prop} {s : Shared} {env : Env} {h₀ : Heap} {L : Addr}

theorem for_list {x : PySem.Str} {px pos : Pos} {iter : Expr} {body : List Stmt} {l : Addr} {its : Array Value} {nl : Nat} {m : PySem.Str → Option Value} {led : List (Addr × Obj)} (hh : A.handled = none) (F : Fr h₀ L s.heap m) (N : News h₀ L s.heap led)
   (J : Nat → (PySem.Str → Option Value) → List (Addr × Obj) → Prop) (hJ : J 0 m led) (hlJ : ∀ i m₁ led₁, J i m₁ led₁ → (l, listOf its nl) ∈ led₁ ∧ ∀ p ∈ led₁, ∃ o, (p.1, o) ∈ led)
   (h : wpAny (model prog w) A (eval iter env) (fun xv s₁ => xv = .ref l ∧ ∃ tk, s₁ = { s with toks := tk }) E s)
   (turn : ∀ i v m₁ led₁ h₁ tk₁ I oI, its[i]? = some v → J i m₁ led₁ → Fr h₀ L h₁ m₁ → News h₀ L h₁ ((I, oI) :: led₁) → (∀ p ∈ led₁, p.1 < I) →
      wpAny (model prog w) A (storeName env x v) (fun _ s₂ => wpAny (model prog w) A (execs body env) (ForStep h₀ L s J i I oI) E s₂) E { s with heap := h₁, toks := tk₁ })
   (done : ∀ m₁ led₁ h₁ tk₁, J its.size m₁ led₁ → Fr h₀ L h₁ m₁ → News h₀ L h₁ led₁ → Q .next { s with heap := h₁, toks := tk₁ })
   (hs : ∀ x, foldedSetIterable iter env x = pure x := by intro _; rfl) (hE : PassesOwn (model prog w) A env E := by passes_own) :
   wpAny (model prog w) A (exec (.For (.Name x px) iter body [] pos) env) Q E s := by
  refine wpAny_For (wpAny_mono h (fun xv s₁ h₁ => ?_) fun _ _ z => z) hs
  obtain ⟨rfl, tk, rfl⟩ := h₁
  have hl := (hlJ 0 m led hJ).1
  have hll := Heap.lt_size (N _ hl).1
  refine wpAny_pyIter_list (PySem.IsL.isList (n := nl) (N.get hl)) ?_
  dsimp only
  have hI0 : (s.heap.push { cls := .type "list_iterator", data := .fields #[.ref l, .int 0 0] }).IsListIter s.heap.objs.size l 0 := ⟨_, Heap.get?_push_size _ rfl, rfl, rfl⟩
  have N0 := News.push F N { cls := .type "list_iterator", data := .fields #[.ref l, .int 0 0] }
  have F0 := F.push { cls := .type "list_iterator", data := .fields #[.ref l, .int 0 0] }
  have hlt : ∀ p ∈ led, p.1 < s.heap.objs.size := fun p hp => Heap.lt_size (N p hp).1
  refine codeAny_forLoop (R := fun r s' => match r with | .ok f => Q f s' | .error e => cameBackBy (model prog w) A env E e s')
    (fun k s' => ∃ i m₁ led₁ h₁ tk₁ oI, s' = { s with heap := h₁, toks := tk₁ } ∧ i ≤ its.size ∧ k = its.size + 1 - i ∧ J i m₁ led₁ ∧ Fr h₀ L h₁ m₁ ∧ News h₀ L h₁ ((s.heap.objs.size, oI) :: led₁) ∧ oI.cls = .type "list_iterator" ∧ oI.data = .fields #[.ref l, .int (i : Int) 0]) ?_ (its.size + 1)
    ⟨0, m, led, _, _, _, rfl, Nat.zero_le _, rfl, hJ, F0, N0, rfl, rfl⟩
  rintro k s' ⟨i, m₁, led₁, h₁, tk₁, oI, rfl, hi, rfl, J₁, F₁, N₁, hc, hd⟩
  have hlt₁ : ∀ p ∈ led₁, p.1 < s.heap.objs.size := fun p hp => by
    obtain ⟨o, ho⟩ := (hlJ _ _ _ J₁).2 p hp
    exact hlt (p.1, o) ho
  have hit : h₁.IsListIter s.heap.objs.size l i := ⟨oI, (N₁ _ (.head _)).1, hc, hd⟩
  have hls : h₁.IsList l its := PySem.IsL.isList (n := nl) (N₁.get (.tail _ (hlJ _ _ _ J₁).1))
  have hIn := (N₁ _ (.head _)).2
  by_cases hlt : i < its.size
  · refine wpAny_pyNext_list_item hit hls (x := its[i]) (by simp [hlt]) fun h₂ hit₂ hs₂ => ?_
    replace hs₂ : Heap.SameBut s.heap.objs.size h₁ h₂ := hs₂
    obtain ⟨o₂, ho₂, hc₂, hd₂⟩ := hit₂
    have F₂ : Fr h₀ L h₂ m₁ := F₁.change hs₂ hIn.1 hIn.2
    have N₂ : News h₀ L h₂ ((s.heap.objs.size, o₂) :: led₁) := fun p hp => by
      rcases List.mem_cons.mp hp with rfl | hp
      · exact ⟨ho₂, hIn⟩
      · exact ⟨hs₂.extBut _ _ (Nat.ne_of_lt (hlt₁ p hp)) (N₁ p (.tail _ hp)).1, (N₁ p (.tail _ hp)).2⟩
    refine wpAny_passesOwn hE (wpAny_assign_Name (wpAny_mono (turn i its[i] m₁ led₁ h₂ _ _ o₂ (by simp [hlt]) J₁ F₂ N₂ hlt₁) (fun _ s₂ h₂ => ?_) fun _ _ z => z))
    refine wpAny_passesOwn hE (wpAny_mono h₂ (fun f s₃ h₃ => ?_) fun _ _ z => z)
    obtain ⟨rfl, h', tk', m₂, led₂, rfl, F₃, N₃, J₃⟩ := h₃
    exact ⟨its.size + 1 - (i + 1), by omega, i + 1, m₂, led₂, h', tk', o₂, rfl, hlt, rfl, J₃, F₃, N₃, hc₂, hd₂⟩
  · have hi' : i = its.size := by omega
    subst hi'
    refine wpAny_pyNext_list_end hh hit hls (by simp) fun h₂ hs₂ => ?_
    replace hs₂ : Heap.ExtBut s.heap.objs.size h₁ h₂ := hs₂
    refine wpAny_execs_nil (done m₁ led₁ h₂ _ J₁ ⟨F₁.ns.extBut hs₂ (Ne.symm hIn.1), fun b o e => hs₂ b o (fun q => by rw [q, hIn.2] at e; cases e) (F₁.keep b o e), F₁.above⟩ fun p hp => ⟨hs₂ _ _ (Nat.ne_of_lt (hlt₁ p hp)) (N₁ p (.tail _ hp)).1, (N₁ p (.tail _ hp)).2⟩)
end
end Mine
end

section
open PySem PySem.W PyProof.Rows
set_option Elab.async false
namespace Mine
/-- a lambda's code is either not made yet, or it lies in the ledger -/
def TabQ (led : List (Addr × Obj)) (ps : Array Value) (pos : Pos) (qual : PySem.Str) : Prop :=
  codeAmong pos ps.toList = none ∨ ∃ c' oc vs t, codeAmong pos ps.toList = some (.ref c') ∧ (c', oc) ∈ led ∧ c' ≠ 52 ∧ c' ≠ 176 ∧ oc.data = .fields vs ∧ vs[1]? = some (.str qual t)
theorem TabQ.sub {led led' : List (Addr × Obj)} {ps : Array Value} {pos : Pos} {qual : PySem.Str} (h : TabQ led ps pos qual) (hs : ∀ q ∈ led, q.1 ≠ 52 → q.1 ≠ 176 → q ∈ led') : TabQ led' ps pos qual := by
  rcases h with h | ⟨c', oc, vs, t, h1, h2, h3, h4, h5⟩
  · exact .inl h
  · exact .inr ⟨c', oc, vs, t, h1, hs _ h2 h3 h4, h3, h4, h5⟩
abbrev posL : Pos := ⟨17, 31, 17, 57⟩
abbrev posK : Pos := ⟨142, 100, 142, 126⟩
abbrev qualL : PySem.Str := PySem.Str.ofString "make_charset.<locals>.<lambda>"
abbrev qualK : PySem.Str := PySem.Str.ofString "regex_opt_inner.<locals>.<lambda>"
structure Tabs (led : List (Addr × Obj)) (p1 p2 : Array Value) : Prop where
  m52 : (52, tabObj p1) ∈ led
  m176 : (176, tabObj p2) ∈ led
  t1 : TriplesOk p1.toList
  t2 : TriplesOk p2.toList
  q1 : TabQ led p1 posL qualL
  q2 : TabQ led p2 posK qualK
theorem Tabs.sub {led led' : List (Addr × Obj)} {p1 p2 : Array Value} (T : Tabs led p1 p2) (h52 : (52, tabObj p1) ∈ led') (h176 : (176, tabObj p2) ∈ led') (hs : ∀ q ∈ led, q.1 ≠ 52 → q.1 ≠ 176 → q ∈ led') : Tabs led' p1 p2 :=
  ⟨h52, h176, T.t1, T.t2, T.q1.sub hs, T.q2.sub hs⟩

/-- the generators made on the way stand bare -/
def GUp (a b : Array GenState) : Prop := a.size ≤ b.size ∧ ∀ i x, a.size ≤ i → b[i]? = some x → x.bare = true
theorem GUp.refl (a : Array GenState) : GUp a a := ⟨Nat.le_refl _, fun i x hi hx => by rw [Array.getElem?_eq_none hi] at hx; cases hx⟩
theorem GUp.via {a b c : Array GenState} (h1 : b.size = a.size + 1) (h2 : ∀ y, b[a.size]? = some y → y.bare = true) (h3 : ∀ i, i < b.size → c[i]? = b[i]?) (h4 : GUp b c) : GUp a c := by
  refine ⟨by have := h4.1; omega, fun i x hi hx => ?_⟩
  by_cases hb : i < b.size
  · obtain rfl : i = a.size := by omega
    rw [h3 _ hb] at hx
    exact h2 x hx
  · exact h4.2 i x (Nat.le_of_not_lt hb) hx
theorem GUp.trans {a b c : Array GenState} (h1 : GUp a b) (h3 : ∀ i, i < b.size → c[i]? = b[i]?) (h4 : GUp b c) : GUp a c := by
  refine ⟨Nat.le_trans h1.1 h4.1, fun i x hi hx => ?_⟩
  by_cases hb : i < b.size
  · rw [h3 _ hb] at hx
    exact h1.2 i x hi hx
  · exact h4.2 i x (Nat.le_of_not_lt hb) hx
/-- what a call of the inner def does, for lists of a size below n -/
def InnerSpec (w : World) (base : Heap) (n : Nat) : Prop :=
  ∀ (dp un : Nat) (outer : List Env) (gd : Option (List Code)) (s : Shared) (Q E : Value → Shared → Prop) (g : Heap) (led : List (Addr × Obj)) (l : Addr) (vs : List Value) (nl : Nat) (ws : List (List Nat)) (p : List Nat) (tp : Tok) (p1 p2 : Array Value),
   msr ws < n → dp + 4 * n < 900 → Srt ws → ws ≠ [] → (p = [] → [] ∉ ws) → p.length ≤ 3 → Grd (At dp (some outer) gd un) base outer g led s.heap → Tabs led p1 p2 → (l, listOf vs.toArray nl) ∈ led → StrsAre vs (ws.map S) →
   (∀ g' led' h' gens' tk t p1' p2' X W, KtsTurn (outer.filterMap (·.frame)) g g' → Grd (At dp (some outer) gd un) base outer g' led' h' → Tabs led' p1' p2' → (∀ q ∈ led, q.1 ≠ 52 → q.1 ≠ 176 → q ∈ led') → (∀ i, i < s.gens.size → gens'[i]? = s.gens[i]?) → GUp s.gens gens' → Cx ws X W →
     Q (.str (S (p ++ X ++ cl p)) t) { s with heap := h', gens := gens', toks := tk }) →
   wpAny (model PR w) (At dp (some outer) gd un) (call (.ref 179) [.ref l, .str (S p) tp]) Q E s
def rst (led : List (Addr × Obj)) : List (Addr × Obj) := led.filter fun q => decide (q.1 ≠ 52 ∧ q.1 ≠ 176)
theorem rst_sub {led : List (Addr × Obj)} {q : Addr × Obj} (h : q ∈ rst led) : q ∈ led := (List.mem_filter.mp h).1
theorem rst_mem {led : List (Addr × Obj)} {q : Addr × Obj} (h : q ∈ led) (h1 : q.1 ≠ 52) (h2 : q.1 ≠ 176) : q ∈ rst led := List.mem_filter.mpr ⟨h, decide_eq_true ⟨h1, h2⟩⟩
def MidC (s : Shared) (g : Heap) (L : Addr) (m : PySem.Str → Option Value) (led : List (Addr × Obj)) (p : List Nat) (f : Flow) (s' : Shared) : Prop :=
  f = .next ∧ ∃ h' tk t, s' = { s with heap := h', toks := tk } ∧ Fr g L h' (fun y => if y = PySem.Str.ofString "close_paren" then some (.str (S (cl p)) t) else m y) ∧ News g L h' led
theorem MidC.of {s : Shared} {g h' : Heap} {L : Addr} {m : PySem.Str → Option Value} {led : List (Addr × Obj)} {p : List Nat} {x : PySem.Str} {tk : Nat} {t : Tok} (F : Fr g L h' (fun y => if y = PySem.Str.ofString "close_paren" then some (.str x t) else m y)) (N : News g L h' led) (e : S (cl p) = x) :
    MidC s g L m led p .next { s with heap := h', toks := tk } := ⟨rfl, h', tk, t, rfl, e ▸ F, N⟩
theorem mid_close {M : Model} {A : Around} {E : Value → Shared → Prop} {s : Shared} {env : Env} {st : Stmt} {rest : List Stmt} {Q : Flow → Shared → Prop} {g : Heap} {L : Addr} {m : PySem.Str → Option Value} {led : List (Addr × Obj)} {p : List Nat}
   (_F : Fr g L s.heap m) (_N : News g L s.heap led)
   (h1 : wpAny M A (exec st env) (MidC s g L m led p) E s)
   (h2 : ∀ h' tk t, Fr g L h' (fun y => if y = PySem.Str.ofString "close_paren" then some (.str (S (cl p)) t) else m y) → News g L h' led → wpAny M A (execs rest env) Q E { s with heap := h', toks := tk }) : wpAny M A (execs (st :: rest) env) Q E s :=
  wpAny_execs_cons (wpAny_mono h1 (fun f s' h => by
    obtain ⟨rfl, h', tk, t, rfl, F, N⟩ := h
    exact h2 h' tk t F N) fun _ _ e => e)
theorem cl_ne {p : List Nat} (h : (S p).length ≠ 0) : S (cl p) = PySem.Str.ofString ")" := by
  rw [S_len] at h
  have : p ≠ [] := fun q => h (by rw [q]; rfl)
  rw [cl, if_neg this]; rfl
theorem cl_z {p : List Nat} (h : (S p).length = 0) : S (cl p) = PySem.Str.ofString "" := by
  rw [S_len] at h
  have : p = [] := List.length_eq_zero_iff.mp h
  rw [cl, if_pos this]; rfl
theorem cl_s {p : List Nat} (h : (S p).length = 0) : S (cl p) = S p := by
  rw [S_len] at h
  have : p = [] := List.length_eq_zero_iff.mp h
  rw [cl, if_pos this, this]
def MidI (s : Shared) (g : Heap) (L : Addr) (led : List (Addr × Obj)) (ps : List (PySem.Str × Value)) (P : Prop) (s' : Shared) : Prop :=
  P ∧ ∃ h' tk u, s' = { s with heap := h', toks := tk } ∧ Fr g L h' (kstB u ps) ∧ News g L h' led
theorem MidI.of {P : Prop} {s : Shared} {g h' : Heap} {L : Addr} {m : PySem.Str → Option Value} {led led' : List (Addr × Obj)} {ps : List (PySem.Str × Value)} {tk : Nat} (F : Fr g L h' m) (N : News g L h' led') (e : ∀ p ∈ ps, m p.1 = some p.2) (hs : ∀ q ∈ led, q ∈ led') (hP : P) :
    MidI s g L led ps P { s with heap := h', toks := tk } := ⟨hP, h', tk, m, rfl, fit_kstB e ▸ F, fun q hq => N q (hs q hq)⟩
theorem grp_len (X : List Nat) : (S (GRP ++ X ++ cl GRP)).length = X.length + 4 := by rw [S_len]; simp [GRP, cl]
theorem fr_fit {g h : Heap} {L : Addr} {m : PySem.Str → Option Value} {ps : List (PySem.Str × Value)} (F : Fr g L h m) (e : ∀ p ∈ ps, m p.1 = some p.2) : ∃ u, Fr g L h (kstB u ps) := ⟨m, fit_kstB e ▸ F⟩

section
variable {w : World} {dp un : Nat} {fr : Option (List Env)} {gd : Option (List Code)} {s : Shared} {g base : Heap} {L : Addr} {m : PySem.Str → Option Value} {led : List (Addr × Obj)} {loose : List PySem.Str} {mean : ExcName → Option Value} {mg mb : PySem.Str → Option Value}
theorem news_keeps {h h' : Heap} (N : News g L h led) (k : h.StaysIn h') : News g L h' led := fun p hp => ⟨k _ _ (N p hp).1, (N p hp).2⟩
theorem escape_N {Q E : Value → Shared → Prop} {x : List Nat} {t : Tok} (X : (KF w).In g) (T : Top PySem.W.topProg loose mean mg mb g) (hd : dp < 900) (F : Fr g L s.heap m) (N : News g L s.heap led) (hlen : x.length ≤ 100000)
   (k : ∀ h' tk t', Fr g L h' m → News g L h' led → Q (.str (S (escL x)) t') { s with heap := h', toks := tk }) : wpAny (model PR w) (At dp fr gd un) (call (.ref 174) [.str (S x) t]) Q E s :=
  escape_spec (X.keeps F.keep) (T.keeps F.keep) hd rfl hlen fun h' tk t' st => k h' tk t' (F.keeps st) (news_keeps N st)
theorem prefix_N {Q E : Value → Shared → Prop} {l : Addr} {vs : List Value} {nl : Nat} {ws : List (List Nat)} (X : (KF w).In g) (T : Top PySem.W.topProg loose mean mg mb g) (hd : dp < 900) (F : Fr g L s.heap m) (N : News g L s.heap led)
   (hl : (l, listOf vs.toArray nl) ∈ led) (hS : StrsAre vs (ws.map S)) (h0 : ws ≠ []) (hn : ws.length ≤ 1000) (hb : ∀ z ∈ ws, z.length ≤ 1000)
   (k : ∀ h' tk t' a b, a ∈ ws → b ∈ ws → (∀ z ∈ ws, ¬ z < a) → (∀ z ∈ ws, ¬ b < z) → Fr g L h' m → News g L h' led → Q (.str (S (lcp a b)) t') { s with heap := h', toks := tk }) : wpAny (model PR w) (At dp fr gd un) (call (.ref 50) [.ref l]) Q E s :=
  prefix_spec (X.keeps F.keep) (T.keeps F.keep) hd (PySem.IsL.isList (N.get hl)) hS h0 hn hb fun h' tk t' a b ha hb' h1 h2 st => k h' tk t' a b ha hb' h1 h2 (F.keeps st) (news_keeps N st)

theorem Fr.grd {A : Around} {outer : List Env} {h : Heap} (F : Fr g L h m) (N : News g L h led) (B : Below A base outer g) (D : KtsDicts (outer.filterMap (·.frame)) g) : Grd A base outer g led h :=
  ⟨B, D, F.keep, Nat.le_trans F.above (Nat.le_of_lt F.ns.lt), fun p hp => ⟨(N p hp).1, (N p hp).2.2⟩⟩

/-- the inner def, called out of a body -/
theorem inner_N {n dp' un' : Nat} {gd' : Option (List Code)} {A₀ : Around} {env : Env} {outer : List Env} {g₀ : Heap} {Q E : Value → Shared → Prop} {l : Addr} {vs : List Value} {nl : Nat} {ws : List (List Nat)} {p : List Nat} {tp : Tok} {p1 p2 : Array Value}
   (ih : InnerSpec w base n) (F : Fr g L s.heap m) (N : News g L s.heap led) (B : Below A₀ base outer g) (D : KtsDicts (outer.filterMap (·.frame)) g) (T0 : KtsTurn (outer.filterMap (·.frame)) g₀ g) (hf : env.frame = some L) (hck : env.scope.kind ≠ .module)
   (hm : msr ws < n) (hd : dp' + 4 * n < 900) (hsrt : Srt ws) (hne : ws ≠ []) (hp : p = [] → [] ∉ ws) (hpl : p.length ≤ 3) (hT : Tabs led p1 p2) (hl : (l, listOf vs.toArray nl) ∈ led) (hS : StrsAre vs (ws.map S))
   (k : ∀ g' led' h' gens' tk t p1' p2' X W, KtsTurn (outer.filterMap (·.frame)) g₀ g' → Fr g' L h' m → News g' L h' led' → Below A₀ base outer g' → KtsDicts (outer.filterMap (·.frame)) g' → Tabs led' p1' p2' → (∀ q ∈ led, q.1 ≠ 52 → q.1 ≠ 176 → q ∈ led') →
      (∀ i, i < s.gens.size → gens'[i]? = s.gens[i]?) → GUp s.gens gens' → Cx ws X W → Q (.str (S (p ++ X ++ cl p)) t) { s with heap := h', gens := gens', toks := tk }) :
   wpAny (model PR w) (At dp' (some (env :: outer)) gd' un') (call (.ref 179) [.ref l, .str (S p) tp]) Q E s := by
  obtain ⟨gc, G, back⟩ := ground_of (A := At dp' (some (env :: outer)) gd' un') B F N D T0 rfl hf hck
  refine ih dp' un' (env :: outer) gd' s Q E gc led l vs nl ws p tp p1 p2 hm hd hsrt hne hp hpl G hT hl hS fun g' led' h' gens' tk t p1' p2' X W hT' hG h1 h3 h4 h5 hC => ?_
  obtain ⟨g2, hT2, F2, N2, B2, D2⟩ := back g' h' led' hT' hG
  exact k g2 led' h' gens' tk t p1' p2' X W hT2 F2 N2 B2 D2 h1 h3 h4 h5 hC
end

/-- what make_charset does -/
def CharsetSpec (w : World) : Prop :=
  ∀ (loose : List PySem.Str) (mean : ExcName → Option Value) (mg mb : PySem.Str → Option Value) (dp un : Nat) (fr : Option (List Env)) (gd : Option (List Code)) (s : Shared) (Q E : Value → Shared → Prop) (g : Heap) (l : Addr) (vs : List Value) (cs : List Nat) (p1 : Array Value) (led : List (Addr × Obj)),
   (KF w).In g → Top PySem.W.topProg loose mean mg mb g → (∀ b o, g.get? b = some o → s.heap.get? b = some o) → g.objs.size ≤ s.heap.objs.size → g.get? 52 = none → dp < 897 → s.heap.IsList l vs.toArray → StrsAre vs ((cs.map fun c => [c]).map S) → cs.length ≤ 60 → s.heap.get? 52 = some (tabObj p1) → TriplesOk p1.toList → TabQ led p1 posL qualL → (∀ q ∈ led, s.heap.get? q.1 = some q.2) → (∃ o, (176, o) ∈ led) →
   (∀ h' tk t p1' new, (∀ b o, b ≠ 52 → s.heap.get? b = some o → h'.get? b = some o) → h'.get? 52 = some (tabObj p1') → TriplesOk p1'.toList → TabQ (new ++ led) p1' posL qualL → (∀ q ∈ new, h'.get? q.1 = some q.2 ∧ s.heap.get? q.1 = none) →
     Q (.str (S ([91] ++ encL cs ++ [93])) t) { s with heap := h', toks := tk }) →
   wpAny (model PR w) (At dp fr gd un) (call (.ref 57) [.ref l]) Q E s
section
variable {w : World} {dp un : Nat} {fr : Option (List Env)} {gd : Option (List Code)} {s : Shared} {g : Heap} {L : Addr} {m : PySem.Str → Option Value} {led : List (Addr × Obj)} {loose : List PySem.Str} {mean : ExcName → Option Value} {mg mb : PySem.Str → Option Value}
theorem charset_N {Q E : Value → Shared → Prop} {l : Addr} {vs : List Value} {nl : Nat} {cs : List Nat} {p1 p2 : Array Value} (hC : CharsetSpec w) (X : (KF w).In g) (T : Top PySem.W.topProg loose mean mg mb g) (hd : dp < 897) (F : Fr g L s.heap m) (N : News g L s.heap led) (hT : Tabs led p1 p2) (hL : @LT.lt Nat _ 176 L)
   (hl : (l, listOf vs.toArray nl) ∈ led) (hS : StrsAre vs ((cs.map fun c => [c]).map S)) (hn : cs.length ≤ 60)
   (k : ∀ h' tk t p1' led', Fr g L h' m → News g L h' led' → Tabs led' p1' p2 → (∀ q ∈ led, q.1 ≠ 52 → q ∈ led') → Q (.str (S ([91] ++ encL cs ++ [93])) t) { s with heap := h', toks := tk }) : wpAny (model PR w) (At dp fr gd un) (call (.ref 57) [.ref l]) Q E s := by
  refine hC loose mean mg mb dp un fr gd s Q E g l vs cs p1 led X T F.keep (Nat.le_trans F.above (Nat.le_of_lt F.ns.lt)) (N.fresh hT.m52) hd (PySem.IsL.isList (N.get hl)) hS hn (N.get hT.m52) hT.t1 hT.q1 (fun q hq => N.get hq) ⟨_, hT.m176⟩ fun h' tk t p1' new hk h52 ht hq hnew => ?_
  have g52 := N.fresh hT.m52
  have hLh := F.ns.lt
  have L52 : L ≠ 52 := fun q => by have hL' := hL; rw [q] at hL'; exact absurd hL' (by decide)
  have F' : Fr g L h' m := ⟨F.ns.at fun o e => hk L o L52 e, fun b o e => hk b o (fun q => by rw [q, g52] at e; cases e) (F.keep b o e), F.above⟩
  refine k h' tk t p1' ((52, tabObj p1') :: (new ++ led.filter fun q => decide (q.1 ≠ 52))) F' (fun q hq' => ?_) ⟨.head _, ?_, ht, hT.t2, ?_, ?_⟩ (fun q hq' h1 => ?_)
  · rcases List.mem_cons.mp hq' with rfl | hq'
    · exact ⟨h52, (N _ hT.m52).2⟩
    · rcases List.mem_append.mp hq' with hq' | hq'
      · obtain ⟨h1, h2⟩ := hnew q hq'
        refine ⟨h1, fun e => ?_, ?_⟩
        · obtain ⟨o, es, ep, ho, _⟩ := F.ns
          rw [← e, h2] at ho
          cases ho
        · cases hg : g.get? q.1 with
          | none => rfl
          | some o => have := F.keep _ _ hg; rw [h2] at this; cases this
      · obtain ⟨h1, h2⟩ := List.mem_filter.mp hq'
        exact ⟨hk _ _ (of_decide_eq_true h2) (N _ h1).1, (N _ h1).2⟩
  · exact .tail _ (List.mem_append_right _ (List.mem_filter.mpr ⟨hT.m176, decide_eq_true (by show (176 : Nat) ≠ 52; decide)⟩))
  · refine TabQ.sub hq fun q hq' h1 _ => .tail _ ?_
    rcases List.mem_append.mp hq' with hq' | hq'
    · exact List.mem_append_left _ hq'
    · exact List.mem_append_right _ (List.mem_filter.mpr ⟨hq', decide_eq_true h1⟩)
  · exact hT.q2.sub fun q hq' h1 _ => .tail _ (List.mem_append_right _ (List.mem_filter.mpr ⟨hq', decide_eq_true h1⟩))
  · exact .tail _ (List.mem_append_right _ (List.mem_filter.mpr ⟨hq', decide_eq_true h1⟩))
end

def OffA (L : Nat) (R : List (Addr × Obj)) : Prop := ∀ D : Nat, L < D → ∀ q ∈ R, q.1 ≠ D
theorem OffA.use {L D : Nat} {R : List (Addr × Obj)} (h : OffA L R) (hd : L < D) : ∀ q ∈ R, q.1 ≠ D := h D hd
theorem take_one {pre : List (List Nat)} {x : List Nat} (h : x.length = 1) : ((pre ++ [x]).filter fun x => x.length == 1) = (pre.filter fun x => x.length == 1) ++ [x] ∧ ((pre ++ [x]).filter fun x => !(x.length == 1)) = pre.filter fun x => !(x.length == 1) := by
  simp [List.filter_append, List.filter_cons, h]
theorem take_not {pre : List (List Nat)} {x : List Nat} (h : x.length ≠ 1) : ((pre ++ [x]).filter fun x => x.length == 1) = (pre.filter fun x => x.length == 1) ∧ ((pre ++ [x]).filter fun x => !(x.length == 1)) = (pre.filter fun x => !(x.length == 1)) ++ [x] := by
  simp [List.filter_append, List.filter_cons, h]
theorem ones_flat : ∀ {ws : List (List Nat)}, (∀ x ∈ ws, x.length = 1) → ws.flatten.map (fun c => [c]) = ws
  | [], _ => rfl
  | x :: r, h => by
    have ih := ones_flat fun y hy => h y (List.mem_cons_of_mem _ hy)
    match x, h x (List.mem_cons_self ..) with
    | [c], _ => rw [List.flatten_cons, List.map_append, ih]; rfl
theorem Srt.full {x : List Nat} {tl : List (List Nat)} (h : Srt (x :: tl)) (hx : x ≠ []) : ∀ y ∈ x :: tl, y ≠ [] := by
  intro y hy
  rcases List.mem_cons.mp hy with rfl | hy
  · exact hx
  · rintro rfl
    have := (List.pairwise_cons.mp h.sorted).1 _ hy
    exact absurd this (List.not_lt_nil _)
def isOne (x : List Nat) : Bool := x.length == 1
/-- the loop that parts the one-sign words -/
def SetJ (ws : List (List Nat)) (R O : Addr) (LED : List (Addr × Obj)) (ps : List (PySem.Str × Value)) (i : Nat) (m : PySem.Str → Option Value) (led : List (Addr × Obj)) : Prop :=
  ∃ u vo vr no nr, m = kstB u (ps ++ [(PySem.Str.ofString "oneletter", .ref O), (PySem.Str.ofString "rest", .ref R)]) ∧ led = (R, listOf (List.toArray vr) nr) :: (O, listOf (List.toArray vo) no) :: LED ∧
    StrsAre vo (((ws.take i).filter fun x => x.length == 1).map S) ∧ StrsAre vr (((ws.take i).filter fun x => !(x.length == 1)).map S)
theorem SetJ.end {h₀ h' : Heap} {L R O I : Addr} {oI : Obj} {s : Shared} {ws : List (List Nat)} {LED : List (Addr × Obj)} {ps : List (PySem.Str × Value)} {i tk : Nat} {m : PySem.Str → Option Value} {ao ar : Array Value} {no nr : Nat}
   (F : Fr h₀ L h' m) (N : News h₀ L h' ((I, oI) :: (R, listOf ar nr) :: (O, listOf ao no) :: LED)) (e : ∀ p ∈ ps ++ [(PySem.Str.ofString "oneletter", .ref O), (PySem.Str.ofString "rest", .ref R)], m p.1 = some p.2)
   (ho : StrsAre ao.toList (((ws.take (i + 1)).filter fun x => x.length == 1).map S)) (hr : StrsAre ar.toList (((ws.take (i + 1)).filter fun x => !(x.length == 1)).map S)) :
   ForStep h₀ L s (SetJ ws R O LED ps) i I oI .next { s with heap := h', toks := tk } :=
  ForStep.of F N (fun _ h => h) ⟨m, ao.toList, ar.toList, no, nr, fit_kstB e, by rw [Array.toArray_toList, Array.toArray_toList], ho, hr⟩
end Mine
end

section
open PySem PySem.W PySem.Calls PyProof.Rows PySem.Spec
set_option Elab.async false
set_option maxRecDepth 100000
namespace Mine
def iterO (l : Addr) (i : Nat) : Obj := { cls := .type "list_iterator", dict := none, data := .fields #[.ref l, .int i 0], slots := #[] }
def iterE : Obj := { cls := .type "list_iterator", dict := none, data := .fields #[.none, .int 0 0], slots := #[] }
def iterX (i : Nat) : Obj := { cls := .type "list_iterator", dict := none, data := .fields #[.none, .int i 0], slots := #[] }
section
variable {prog : Program} {w : World} {A : Around} {E : Value → Shared → Prop} {s : Shared} {h₀ : Heap} {L l it : Addr} {m : Str → Option Value} {news : List (Addr × Obj)} {g : Obj → List (Addr × Obj)} {vs : List Value} {n i : Nat}
theorem li_iter {Q : Value → Shared → Prop} (F : Fr h₀ L s.heap m) (N : News h₀ L s.heap news) (hp : (l, listOf vs.toArray n) ∈ news)
    (h : ∀ (I : Addr) h', Fr h₀ L h' m → News h₀ L h' ((I, iterO l 0) :: news) → (∀ p ∈ news, p.1 < I) → Q (.ref I) { s with heap := h' }) :
    wpAny (model prog w) A (call (.builtin "iter") [.ref l]) Q E s := by
  have hl : s.heap.IsList l vs.toArray := ⟨_, (N _ hp).1, rfl, n, rfl⟩
  refine call_function_entry (by decide +kernel) (by decide +kernel) kdk_entry_iter (kdk_args_iter _) ?_
  unfold Builtin.«iter»
  refine wpAny_bind (m := someArgs "iter" 1 2 _) (wpAny_of_eq (a := [Value.ref l]) (by first | rfl | kernel_rfl!) ?_)
  show wpAny _ _ (pyIter (.ref l) >>= _) _ _ _
  refine wpAny_bind (wpAny_pyIter_list hl ?_)
  exact wpAny_pure ⟨_, rfl, h _ _ (F.push _) (News.push F N _ rfl) (fun q hq => Heap.lt_size (N q hq).1)⟩

theorem li_special {x : Value} {Q : Option Value → Shared → Prop} (hit : s.heap.get? it = some (iterO l i)) (hl : s.heap.IsList l vs.toArray) (hx : vs[i]? = some x)
    (hQ : ∀ h', h'.get? it = some (iterO l (i + 1)) → Heap.SameBut it s.heap h' → Q (some x) { s with heap := h' }) :
    wpAny (model prog w) A (callSpecial? (.ref it) (Str.ofString "__next__")) Q E s := by
  have hit' : s.heap.IsListIter it l i := ⟨_, hit, rfl, rfl⟩
  obtain ⟨ol, hol, _, nl, hdl⟩ := hl
  refine wpAny_callSpecial?_slot (name := Str.ofString "__next__") hit'.typeIs slot_listiter_next
    (wpAny_call_entry slot_listiter_next hit'.typeIs entry_listiter_next ?_ (args_listiter_next _))
  show wpAny _ _ (field (.ref it) 0 >>= _) _ _ s
  refine wpAny_bind (wpAny_field hit rfl (x := .ref l) rfl ?_)
  show wpAny _ _ (if (Value.ref l == Value.none) = true then _ else _) _ _ s
  rw [if_neg (show ¬ ((Value.ref l == Value.none) = true) from Bool.false_ne_true)]
  show wpAny _ _ (field (.ref it) 1 >>= _) _ _ s
  refine wpAny_bind (wpAny_field hit rfl (x := .int i 0) rfl ?_)
  show wpAny _ _ (seqItems? (.ref l) >>= _) _ _ s
  refine wpAny_bind (wpAny_seqItems hol hdl ?_)
  simp only [Int.toNat_natCast, List.getElem?_toArray, hx]
  refine wpAny_bind (wpAny_setField hit rfl (by simp) (wpAny_pure ⟨x, rfl, hQ _ ?_ (Heap.SameBut.update ..)⟩))
  rw [Heap.get?_update_self _ hit (Obj.isFreed_of_fields (Obj.data_mapFields rfl _))]
  rfl
theorem li_next {x : Value} {Q : Value → Shared → Prop} (F : Fr h₀ L s.heap m) (N : News h₀ L s.heap news) (U : UpdF it (iterO l i) news g) (hp : (l, listOf vs.toArray n) ∈ news) (hx : vs[i]? = some x)
    (h : ∀ h', Fr h₀ L h' m → News h₀ L h' (g (iterO l (i + 1))) → Q x { s with heap := h' }) :
    wpAny (model prog w) A (call (.builtin "next") [.ref it]) Q E s := by
  obtain ⟨pre, post, hl, hg, a, b⟩ := U.split
  have hmem : (it, iterO l i) ∈ news := by rw [hl]; exact List.mem_append_right _ (.head _)
  have hm := N (it, iterO l i) hmem
  have hit' : s.heap.IsListIter it l i := ⟨_, hm.1, rfl, rfl⟩
  refine call_function_entry (by decide +kernel) (by decide +kernel) kdk_entry_next (kdk_args_next _) ?_
  unfold Builtin.«next»
  refine wpAny_bind (m := someArgs "next" 1 2 _) (wpAny_of_eq (a := [Value.ref it]) (by first | rfl | kernel_rfl!) ?_)
  dsimp only
  refine wpAny_bind (wpAny_specialOf (name := Str.ofString "__next__") hit'.typeIs slot_listiter_next.lookup ?_)
  refine wpAny_ite_split (fun hab => absurd hab (by decide)) (fun _ => ?_)
  refine wpAny_bind (li_special hm.1 ⟨_, (N _ hp).1, rfl, n, rfl⟩ hx fun h' ho' hs => ?_)
  exact wpAny_pure ⟨_, rfl, h h' (F.change hs hm.2.1 hm.2.2) (hg (iterO l (i + 1)) ▸ (show News h₀ L s.heap (pre ++ (it, iterO l i) :: post) from hl ▸ N).setIn a b hs ho')⟩

theorem li_special_end {Q : Option Value → Shared → Prop} (hh : A.handled = none) (hit : s.heap.get? it = some (iterO l i)) (hl : s.heap.IsList l vs.toArray) (hx : vs[i]? = none)
    (hE : ∀ h₁ h' e, h₁.get? it = some (iterX i) → Heap.SameBut it s.heap h₁ → Heap.MadeExc h₁ h' e "StopIteration" [] → E (.ref e) { s with heap := h' }) :
    wpAny (model prog w) A (callSpecial? (.ref it) (Str.ofString "__next__")) Q E s := by
  have hit' : s.heap.IsListIter it l i := ⟨_, hit, rfl, rfl⟩
  obtain ⟨ol, hol, _, nl, hdl⟩ := hl
  refine wpAny_callSpecial?_slot (name := Str.ofString "__next__") hit'.typeIs slot_listiter_next
    (wpAny_call_entry slot_listiter_next hit'.typeIs entry_listiter_next ?_ (args_listiter_next _))
  show wpAny _ _ (field (.ref it) 0 >>= _) _ _ s
  refine wpAny_bind (wpAny_field hit rfl (x := .ref l) rfl ?_)
  show wpAny _ _ (if (Value.ref l == Value.none) = true then _ else _) _ _ s
  rw [if_neg (show ¬ ((Value.ref l == Value.none) = true) from Bool.false_ne_true)]
  show wpAny _ _ (field (.ref it) 1 >>= _) _ _ s
  refine wpAny_bind (wpAny_field hit rfl (x := .int i 0) rfl ?_)
  show wpAny _ _ (seqItems? (.ref l) >>= _) _ _ s
  refine wpAny_bind (wpAny_seqItems hol hdl ?_)
  simp only [Int.toNat_natCast, List.getElem?_toArray, hx]
  refine wpAny_bind (wpAny_rule (wpAny_bind (wpAny_setField hit rfl (by simp) ?_)))
  have h1 : (s.heap.update it (Obj.mapFields (·.setIfInBounds 0 .none))).get? it = some (iterX i) := by
    rw [Heap.get?_update_self _ hit (Obj.isFreed_of_fields (Obj.data_mapFields rfl _))]
    rfl
  show wpAny _ _ (newExc (.type "StopIteration") [] >>= _) _ _ _
  refine wpAny_bind ?_
  simp only [newExc, newTuple]
  refine wpAny_bind (wpAny_newObj_type ?_ (by size_fits))
  refine wpAny_bind (m := firstArgMember _ _) (wpAny_of_eq (a := Value.none) (by first | rfl | (simp only [firstArgMember]; rfl)) ?_)
  refine wpAny_newObj_type ?_ (by size_fits)
  simp only [raiseNew]
  refine wpAny_bind (wpAny_handled ?_)
  first | rw [show A.in1.handled = none from hh] | rw [hh]
  refine wpAny_bind (wpAny_pure (wpAny_throw ?_))
  refine hE _ _ _ h1 (Heap.SameBut.update ..) ⟨fun b o q => Heap.get?_push_of_some _ (Heap.get?_push_of_some _ q), ?_, ⟨_, Heap.get?_push_size _ rfl, ?_, ?_⟩⟩
  · exact Heap.get?_none_of_le (Nat.le_of_lt (Heap.lt_size (Heap.get?_push_size _ rfl)))
  · exact Option.eq_none_iff_forall_ne_some.mpr fun o q => absurd (Heap.lt_size q) (Nat.lt_irrefl _)
  · exact Heap.get?_push_of_some _ (Heap.get?_push_size _ rfl)
theorem li_stop {Q : Value → Shared → Prop} (F : Fr h₀ L s.heap m) (N : News h₀ L s.heap news) (U : UpdF it (iterO l i) news g) (hp : (l, listOf vs.toArray n) ∈ news) (hh : A.handled = none) (hx : vs[i]? = none)
    (h : ∀ h₁ h' e, Fr h₀ L h₁ m → News h₀ L h₁ (g (iterX i)) → Heap.MadeExc h₁ h' e "StopIteration" [] → E (.ref e) { s with heap := h' }) :
    wpAny (model prog w) A (call (.builtin "next") [.ref it]) Q E s := by
  obtain ⟨pre, post, hl, hg, a, b⟩ := U.split
  have hmem : (it, iterO l i) ∈ news := by rw [hl]; exact List.mem_append_right _ (.head _)
  have hm := N (it, iterO l i) hmem
  have hit' : s.heap.IsListIter it l i := ⟨_, hm.1, rfl, rfl⟩
  refine call_function_entry (by decide +kernel) (by decide +kernel) kdk_entry_next (kdk_args_next _) ?_
  unfold Builtin.«next»
  refine wpAny_bind (m := someArgs "next" 1 2 _) (wpAny_of_eq (a := [Value.ref it]) (by first | rfl | kernel_rfl!) ?_)
  dsimp only
  refine wpAny_bind (wpAny_specialOf (name := Str.ofString "__next__") hit'.typeIs slot_listiter_next.lookup ?_)
  refine wpAny_ite_split (fun hab => absurd hab (by decide)) (fun _ => ?_)
  refine wpAny_bind (li_special_end hh hm.1 ⟨_, (N _ hp).1, rfl, n, rfl⟩ hx fun h₁ h' e ho' hs hx' => ?_)
  exact h h₁ h' e (F.change hs hm.2.1 hm.2.2) (hg (iterX i) ▸ (show News h₀ L s.heap (pre ++ (it, iterO l i) :: post) from hl ▸ N).setIn a b hs ho') hx'
theorem li_special_end2 {Q : Option Value → Shared → Prop} (hh : A.handled = none) (hit : s.heap.get? it = some (iterX i))
    (hE : ∀ h' e, Heap.MadeExc s.heap h' e "StopIteration" [] → E (.ref e) { s with heap := h' }) :
    wpAny (model prog w) A (callSpecial? (.ref it) (Str.ofString "__next__")) Q E s := by
  have hT : s.TypeIs (.ref it) "list_iterator" := ⟨_, hit, rfl⟩
  refine wpAny_callSpecial?_slot (name := Str.ofString "__next__") hT slot_listiter_next
    (wpAny_call_entry slot_listiter_next hT entry_listiter_next ?_ (args_listiter_next _))
  show wpAny _ _ (field (.ref it) 0 >>= _) _ _ s
  refine wpAny_bind (wpAny_field hit rfl (x := Value.none) rfl ?_)
  show wpAny _ _ (if (Value.none == Value.none) = true then _ else _) _ _ s
  rw [if_pos (by decide)]
  refine wpAny_bind (wpAny_rule ?_)
  first
  | show wpAny _ _ (newExc (.type "StopIteration") [] >>= _) _ _ _
  | (refine wpAny_bind ?_; show wpAny _ _ (newExc (.type "StopIteration") [] >>= _) _ _ _)
  refine wpAny_bind ?_
  simp only [newExc, newTuple]
  refine wpAny_bind (wpAny_newObj_type ?_ (by size_fits))
  refine wpAny_bind (m := firstArgMember _ _) (wpAny_of_eq (a := Value.none) (by first | rfl | (simp only [firstArgMember]; rfl)) ?_)
  refine wpAny_newObj_type ?_ (by size_fits)
  simp only [raiseNew]
  refine wpAny_bind (wpAny_handled ?_)
  first | rw [show A.in1.handled = none from hh] | rw [hh]
  refine wpAny_bind (wpAny_pure (wpAny_throw ?_))
  refine hE _ _ ⟨fun b o q => Heap.get?_push_of_some _ (Heap.get?_push_of_some _ q), ?_, ⟨_, Heap.get?_push_size _ rfl, ?_, ?_⟩⟩
  · exact Heap.get?_none_of_le (Nat.le_of_lt (Heap.lt_size (Heap.get?_push_size _ rfl)))
  · exact Option.eq_none_iff_forall_ne_some.mpr fun o q => absurd (Heap.lt_size q) (Nat.lt_irrefl _)
  · exact Heap.get?_push_of_some _ (Heap.get?_push_size _ rfl)
theorem li_stop2 {Q : Value → Shared → Prop} (N : News h₀ L s.heap news) (hm : (it, iterX i) ∈ news) (hh : A.handled = none)
    (h : ∀ h' e, Heap.MadeExc s.heap h' e "StopIteration" [] → E (.ref e) { s with heap := h' }) :
    wpAny (model prog w) A (call (.builtin "next") [.ref it]) Q E s := by
  have hit := (N _ hm).1
  have hT : s.TypeIs (.ref it) "list_iterator" := ⟨_, hit, rfl⟩
  refine call_function_entry (by decide +kernel) (by decide +kernel) kdk_entry_next (kdk_args_next _) ?_
  unfold Builtin.«next»
  refine wpAny_bind (m := someArgs "next" 1 2 _) (wpAny_of_eq (a := [Value.ref it]) (by first | rfl | kernel_rfl!) ?_)
  dsimp only
  refine wpAny_bind (wpAny_specialOf (name := Str.ofString "__next__") hT slot_listiter_next.lookup ?_)
  refine wpAny_ite_split (fun hab => absurd hab (by decide)) (fun _ => ?_)
  exact wpAny_bind (li_special_end2 hh hit h)
end
end Mine
end

section
open PySem PySem.W PySem.Calls PyProof.Rows PySem.Spec
set_option Elab.async false
namespace Mine
/-- a ground for a call that raises nothing and writes nothing old -/
structure GrdN (A : Around) (base : Heap) (outer : List Env) (g : Heap) (led : List (Addr × Obj)) (h : Heap) : Prop where
  below : Below A base outer g
  keep : ∀ b o, g.get? b = some o → h.get? b = some o
  size : g.objs.size ≤ h.objs.size
  led : ∀ p ∈ led, h.get? p.1 = some p.2 ∧ g.get? p.1 = none
section
variable {prog : Program} {w : World} {A₀ A : Around} {s : Shared} {base h₀ g₀ : Heap} {outer : List Env} {L a : Addr} {m : PySem.Str → Option Value}
/-- a lambda, entered on a ground -/
theorem enter_lam {K : Frag} {loose : List PySem.Str} {mean : ExcName → Option Value} {mg mb : PySem.Str → Option Value} {R : Result → Shared → Prop} {name qual : PySem.Str} {params : Arguments} {body : Expr} {scope : Scope} {cl : List (PySem.Str × Addr)} {pm ctv : Value} {c' : Addr} {f : Addr} {args : Args} {binds : List (PySem.Str × Value)} {g : Heap} {led : List (Addr × Obj)} {p : Program}
    (G : GrdN A base outer g led s.heap) (X₀ : K.In base) (T : Top p loose mean mg mb base)
    (ho : (f, kla_obj name qual params body scope cl pm c' ctv) ∈ led) (hcd : s.heap.CodeRec (.ref c') qual) (hroom : A.depth < recursionLimit)
    (hbind : bindArgs (kla_fn name qual params body scope cl pm (.ref c') ctv) args = pure binds) (hloc : ∀ y ∈ binds, scope.names.lookup y.1 = some .local)
    (h : ∀ L' h₁, L' = s.heap.objs.size → Fr g L' h₁ (fun y => binds.reverse.lookup y) → News g L' h₁ led → Below A base outer g → K.In g → Top p loose mean mg mb g →
      (∀ b o, s.heap.get? b = some o → h₁.get? b = some o) →
      wpAny (model prog w) (A.deeper (envX qual scope L' f (.ref c') cl)) (eval body (envX qual scope L' f (.ref c') cl))
        (fun v s' => R (.ok (.ret v)) s')
        (fun e s' => wpAny (model prog w) (A.deeper (envX qual scope L' f (.ref c') cl)) (leaving (envX qual scope L' f (.ref c') cl) e) (fun _ s'' => R (.error e) s'') (fun e' s'' => R (.error e') s'') s')
        { s with heap := h₁, toks := s.toks + binds.length })
    (hco : scope.isCoroutine = false) (hgen : scope.isGenerator = false) (hk : scope.kind = .function)
    (hcell : ∀ x ∈ scope.names, x.2 ≠ .cell) : codeAny (model prog w) A (.call (.ref f) args) R s := by
  have Xg := X₀.keeps G.below.stays
  have Tg := T.keeps G.below.stays
  refine kla_callFunE hroom (G.led _ ho).1 rfl hco hgen rfl hcd ?_
  rw [hbind]
  refine wpAny_pure (wpAny_newFunctionEnv hcell hloc (fun h₁ hns hsb => ⟨((Tg.nolimit).keeps G.keep).fresh _ hsb, ?_⟩) hk)
  show codeAny _ _ (.expr body (envX qual scope s.heap.objs.size f (.ref c') cl)) _ _
  have hk₁ : ∀ b o, s.heap.get? b = some o → h₁.get? b = some o := fun b o e => hsb.extBut b o (Nat.ne_of_lt (Heap.lt_size e)) (Heap.get?_push_of_some _ e)
  exact kla_codeExpr (h _ h₁ rfl ⟨hns, fun b o e => hk₁ b o (G.keep b o e), G.size⟩ (fun p hp => ⟨hk₁ _ _ (G.led p hp).1, Nat.ne_of_lt (Heap.lt_size (G.led p hp).1), (G.led p hp).2⟩) G.below Xg Tg hk₁)
theorem groundN_of {env : Env} {news : List (Addr × Obj)} (B : Below A₀ base outer h₀) (F : Fr h₀ L s.heap m) (N : News h₀ L s.heap news) (hA : A.frames = some (env :: outer)) (hf : env.frame = some L) (hck : env.scope.kind ≠ .module) :
    GrdN A base (env :: outer) (hideAll s.heap (news.map (·.1))) news s.heap := by
  have nm : ∀ b o, h₀.get? b = some o → b ∉ news.map (·.1) := fun b o e q => by
    obtain ⟨p, hp, rfl⟩ := List.mem_map.mp q
    rw [(N p hp).2.2] at e; cases e
  have st : h₀.StaysIn (hideAll s.heap (news.map (·.1))) := fun b o e => hideAll_get _ (F.keep b o e) (nm b o e)
  have nL : L ∉ news.map (·.1) := fun q => by
    obtain ⟨p, hp, e⟩ := List.mem_map.mp q
    exact (N p hp).2.1 e
  have hnew : base.get? L = none := by
    cases hq : base.get? L with
    | none => rfl
    | some o => exact absurd (Nat.lt_of_lt_of_le (Heap.lt_size (B.stays L o hq)) F.above) (Nat.lt_irrefl _)
  have B₁ : Heap.FunFrames s.heap base (env :: outer) := .cons hck hf F.ns hnew (B.frames.of_keeps fun b o e _ => ⟨o, F.keep b o e, rfl⟩)
  exact ⟨⟨hA, fun b o e => st b o (B.stays b o e), funFrames_hideAll B₁ fun env' he b hb hf' => by
    cases he with
    | head => rw [hf] at hf'; exact nL ((Option.some.inj hf' : L = b) ▸ hb)
    | tail _ he =>
      obtain ⟨L₁, o₁, hf₁, ho₁⟩ := funFrames_in B.frames env' he
      rw [hf₁] at hf'
      exact nm L₁ o₁ ho₁ ((Option.some.inj hf' : L₁ = b) ▸ hb)⟩, fun b o e => of_hideAll _ e, Nat.le_of_eq (hideAll_size _ _), fun p hp => ⟨(N p hp).1, hideAll_none _ (List.mem_map_of_mem hp)⟩⟩
end

theorem GrdN.full {A : Around} {base g h : Heap} {outer : List Env} {led : List (Addr × Obj)} (G : GrdN A base outer g led h) : GrdN A base outer (hideAll h (led.map (·.1))) led h := by
  have nm : ∀ b o, g.get? b = some o → b ∉ led.map (·.1) := fun b o e q => by
    obtain ⟨p, hp, rfl⟩ := List.mem_map.mp q
    rw [(G.led p hp).2] at e; cases e
  have st : g.StaysIn (hideAll h (led.map (·.1))) := fun b o e => hideAll_get _ (G.keep b o e) (nm b o e)
  refine ⟨⟨G.below.stack, fun b o e => st b o (G.below.stays b o e), G.below.frames.of_keeps fun b o e _ => ⟨o, st b o e, rfl⟩⟩, fun b o e => of_hideAll _ e, Nat.le_of_eq (hideAll_size _ _), fun p hp => ⟨(G.led p hp).1, hideAll_none _ (List.mem_map_of_mem hp)⟩⟩
theorem full_keeps {h h' : Heap} {L : Addr} {m : PySem.Str → Option Value} {led : List (Addr × Obj)} (F : Fr (hideAll h (led.map (·.1))) L h' m) (N : News (hideAll h (led.map (·.1))) L h' led) (hl : ∀ q ∈ led, h.get? q.1 = some q.2) : ∀ b o, h.get? b = some o → h'.get? b = some o := fun b o e => by
  by_cases hb : b ∈ led.map (·.1)
  · obtain ⟨p, hp, rfl⟩ := List.mem_map.mp hb
    rw [hl p hp] at e
    cases e
    exact (N p hp).1
  · exact F.keep b o (hideAll_get _ e hb)
/-- what the lambda of the inner def answers -/
def LamSpec (w : World) (base : Heap) (x : List Nat) (f : Addr) (os : List (Addr × Obj)) : Prop :=
  (∃ o, (f, o) ∈ os ∧ ∀ h : Heap, h.get? f = some o → FnAt f h) ∧
  ∀ (dp un : Nat) (outer : List Env) (gd : Option (List Code)) (s : Shared) (Q E : Value → Shared → Prop) (g : Heap) (z : List Nat) (t : Tok),
   dp < 990 → z ≠ [] → z.length ≤ 100 → GrdN (At dp (some outer) gd un) base outer g os s.heap →
   (∀ h' tk, (∀ b o, s.heap.get? b = some o → h'.get? b = some o) → Q (.bool (decide (z.head? = x.head?))) { s with heap := h', toks := tk }) →
   wpAny (model PR w) (At dp (some outer) gd un) (call (.ref f) [.str (S z) t]) Q E s
theorem fn_S {w : World} {base h₀ h : Heap} {x : List Nat} {f L : Addr} {os news : List (Addr × Obj)} (hL : LamSpec w base x f os) (N : News h₀ L h news) (hos : ∀ q ∈ os, q ∈ news) : FnAt f h := by
  obtain ⟨o, hm, hf⟩ := hL.1
  exact hf h (N _ (hos _ hm)).1
theorem lam_S {w : World} {base h₀ : Heap} {x z : List Nat} {t : Tok} {f L : Addr} {os news : List (Addr × Obj)} {s : Shared} {Q E : Value → Shared → Prop} {A₀ : Around} {env : Env} {outer : List Env} {dp un : Nat} {gd : Option (List Code)} {m : PySem.Str → Option Value}
   (hL : LamSpec w base x f os) (F : Fr h₀ L s.heap m) (N : News h₀ L s.heap news) (B : Below A₀ base outer h₀) (hf : env.frame = some L) (hck : env.scope.kind ≠ .module) (hd : dp < 990) (hz : z ≠ []) (hzl : z.length ≤ 100) (hos : ∀ q ∈ os, q ∈ news)
   (k : ∀ h' tk, Fr h₀ L h' m → News h₀ L h' news → Q (.bool (decide (z.head? = x.head?))) { s with heap := h', toks := tk }) :
   wpAny (model PR w) (At dp (some (env :: outer)) gd un) (call (.ref f) [.str (S z) t]) Q E s := by
  have G := groundN_of (A := At dp (some (env :: outer)) gd un) B F N rfl hf hck
  exact hL.2 dp un (env :: outer) gd s Q E _ z t hd hz hzl ⟨G.below, G.keep, G.size, fun q hq => G.led q (hos q hq)⟩ fun h' tk hk => k h' tk (F.keeps hk) (news_keeps N hk)
def gbO (I f d : Addr) (cg ck cv hck hcv htk ser tk : Value) : Obj :=
  { cls := .ref 112, dict := some d, slots := #[some cg, some ck, some cv, some hck, some hcv, some htk, some (.ref I), some (.ref f), some ser, some tk] }
theorem gr_next {M : Model} {A : Around} {E : Value → Shared → Prop} {s : Shared} {K : Frag} {x C f : Addr} {ox : Obj} {od : Option Obj} {Q : Option Value → Shared → Prop} (X : K.In s.heap) (I : InstAt s.heap x ox C od) (hs : findIn K (.ref C) "__next__" = some (some (.ref f))) (hf : isFn K (.ref f) = true)
    (h : wpAny M A (call (.ref f) [.ref x]) (fun v s' => Q (some v) s') (OwitStop M A Q E) s) : wpAny M A (pyNext (.ref x)) Q E s := by
  unfold pyNext
  refine wpAny_bind (wpAny_attempt (special_fn (name := "__next__") (args := []) X I hs (beq_iff_eq.mp hf) (wpAny_mono h (fun v s' hq => ?_) (fun e s' he => ?_))))
  · exact wpAny_pure hq
  · refine wpAny_bind (wpAny_mono he (fun b s₂ hb => ?_) fun _ _ z => z)
    cases b with
    | true => exact wpAny_pure hb
    | false => exact wpAny_throw hb
theorem allLt_get {d : Addr} {r : List (Addr × Obj)} (h : AllLt d r) : ∀ q ∈ r, q.1 ≠ d := by
  induction r with
  | nil => intro q hq; cases hq
  | cons p r ih =>
    intro q hq
    rcases List.mem_cons.mp hq with rfl | hq
    · exact Nat.ne_of_lt h.1
    · exact ih h.2 q hq
theorem allLt_g1 {p1 : Prop} {d : Addr} {r : List (Addr × Obj)} (h : p1 ∧ AllLt d r) : ∀ q ∈ r, q.1 ≠ d := allLt_get h.2
theorem allLt_g2 {p1 p2 : Prop} {d : Addr} {r : List (Addr × Obj)} (h : p1 ∧ p2 ∧ AllLt d r) : ∀ q ∈ r, q.1 ≠ d := allLt_get h.2.2
theorem allLt_g3 {p1 p2 p3 : Prop} {d : Addr} {r : List (Addr × Obj)} (h : p1 ∧ p2 ∧ p3 ∧ AllLt d r) : ∀ q ∈ r, q.1 ≠ d := allLt_get h.2.2.2
theorem allLt_g4 {p1 p2 p3 p4 : Prop} {d : Addr} {r : List (Addr × Obj)} (h : p1 ∧ p2 ∧ p3 ∧ p4 ∧ AllLt d r) : ∀ q ∈ r, q.1 ≠ d := allLt_get h.2.2.2.2
theorem allLt_g5 {p1 p2 p3 p4 p5 : Prop} {d : Addr} {r : List (Addr × Obj)} (h : p1 ∧ p2 ∧ p3 ∧ p4 ∧ p5 ∧ AllLt d r) : ∀ q ∈ r, q.1 ≠ d := allLt_get h.2.2.2.2.2
theorem allLt_g6 {p1 p2 p3 p4 p5 p6 : Prop} {d : Addr} {r : List (Addr × Obj)} (h : p1 ∧ p2 ∧ p3 ∧ p4 ∧ p5 ∧ p6 ∧ AllLt d r) : ∀ q ∈ r, q.1 ≠ d := allLt_get h.2.2.2.2.2.2
theorem allLt_g7 {p1 p2 p3 p4 p5 p6 p7 : Prop} {d : Addr} {r : List (Addr × Obj)} (h : p1 ∧ p2 ∧ p3 ∧ p4 ∧ p5 ∧ p6 ∧ p7 ∧ AllLt d r) : ∀ q ∈ r, q.1 ≠ d := allLt_get h.2.2.2.2.2.2.2
theorem allLt_g8 {p1 p2 p3 p4 p5 p6 p7 p8 : Prop} {d : Addr} {r : List (Addr × Obj)} (h : p1 ∧ p2 ∧ p3 ∧ p4 ∧ p5 ∧ p6 ∧ p7 ∧ p8 ∧ AllLt d r) : ∀ q ∈ r, q.1 ≠ d := allLt_get h.2.2.2.2.2.2.2.2
theorem allLt_g9 {p1 p2 p3 p4 p5 p6 p7 p8 p9 : Prop} {d : Addr} {r : List (Addr × Obj)} (h : p1 ∧ p2 ∧ p3 ∧ p4 ∧ p5 ∧ p6 ∧ p7 ∧ p8 ∧ p9 ∧ AllLt d r) : ∀ q ∈ r, q.1 ≠ d := allLt_get h.2.2.2.2.2.2.2.2.2
theorem allLt_g10 {p1 p2 p3 p4 p5 p6 p7 p8 p9 p10 : Prop} {d : Addr} {r : List (Addr × Obj)} (h : p1 ∧ p2 ∧ p3 ∧ p4 ∧ p5 ∧ p6 ∧ p7 ∧ p8 ∧ p9 ∧ p10 ∧ AllLt d r) : ∀ q ∈ r, q.1 ≠ d := allLt_get h.2.2.2.2.2.2.2.2.2.2
theorem allLt_g11 {p1 p2 p3 p4 p5 p6 p7 p8 p9 p10 p11 : Prop} {d : Addr} {r : List (Addr × Obj)} (h : p1 ∧ p2 ∧ p3 ∧ p4 ∧ p5 ∧ p6 ∧ p7 ∧ p8 ∧ p9 ∧ p10 ∧ p11 ∧ AllLt d r) : ∀ q ∈ r, q.1 ≠ d := allLt_get h.2.2.2.2.2.2.2.2.2.2.2
theorem allLt_g12 {p1 p2 p3 p4 p5 p6 p7 p8 p9 p10 p11 p12 : Prop} {d : Addr} {r : List (Addr × Obj)} (h : p1 ∧ p2 ∧ p3 ∧ p4 ∧ p5 ∧ p6 ∧ p7 ∧ p8 ∧ p9 ∧ p10 ∧ p11 ∧ p12 ∧ AllLt d r) : ∀ q ∈ r, q.1 ≠ d := allLt_get h.2.2.2.2.2.2.2.2.2.2.2.2
theorem allLt_up {d x : Addr} {r : List (Addr × Obj)} (h : AllLt d r) (hd : d < x) : ∀ q ∈ r, q.1 ≠ x := by
  induction r with
  | nil => intro q hq; cases hq
  | cons p r ih =>
    intro q hq
    rcases List.mem_cons.mp hq with rfl | hq
    · exact Nat.ne_of_lt (Nat.lt_trans h.1 hd)
    · exact ih h.2 q hq
theorem allLt_u1 {p1 : Prop} {d x : Addr} {r : List (Addr × Obj)} (h : p1 ∧ AllLt d r) (hd : d < x) : ∀ q ∈ r, q.1 ≠ x := allLt_up h.2 hd
theorem allLt_u2 {p1 p2 : Prop} {d x : Addr} {r : List (Addr × Obj)} (h : p1 ∧ p2 ∧ AllLt d r) (hd : d < x) : ∀ q ∈ r, q.1 ≠ x := allLt_up h.2.2 hd
theorem allLt_u3 {p1 p2 p3 : Prop} {d x : Addr} {r : List (Addr × Obj)} (h : p1 ∧ p2 ∧ p3 ∧ AllLt d r) (hd : d < x) : ∀ q ∈ r, q.1 ≠ x := allLt_up h.2.2.2 hd
theorem allLt_u4 {p1 p2 p3 p4 : Prop} {d x : Addr} {r : List (Addr × Obj)} (h : p1 ∧ p2 ∧ p3 ∧ p4 ∧ AllLt d r) (hd : d < x) : ∀ q ∈ r, q.1 ≠ x := allLt_up h.2.2.2.2 hd
theorem allLt_u5 {p1 p2 p3 p4 p5 : Prop} {d x : Addr} {r : List (Addr × Obj)} (h : p1 ∧ p2 ∧ p3 ∧ p4 ∧ p5 ∧ AllLt d r) (hd : d < x) : ∀ q ∈ r, q.1 ≠ x := allLt_up h.2.2.2.2.2 hd
theorem allLt_u6 {p1 p2 p3 p4 p5 p6 : Prop} {d x : Addr} {r : List (Addr × Obj)} (h : p1 ∧ p2 ∧ p3 ∧ p4 ∧ p5 ∧ p6 ∧ AllLt d r) (hd : d < x) : ∀ q ∈ r, q.1 ≠ x := allLt_up h.2.2.2.2.2.2 hd
theorem allLt_u7 {p1 p2 p3 p4 p5 p6 p7 : Prop} {d x : Addr} {r : List (Addr × Obj)} (h : p1 ∧ p2 ∧ p3 ∧ p4 ∧ p5 ∧ p6 ∧ p7 ∧ AllLt d r) (hd : d < x) : ∀ q ∈ r, q.1 ≠ x := allLt_up h.2.2.2.2.2.2.2 hd
theorem allLt_u8 {p1 p2 p3 p4 p5 p6 p7 p8 : Prop} {d x : Addr} {r : List (Addr × Obj)} (h : p1 ∧ p2 ∧ p3 ∧ p4 ∧ p5 ∧ p6 ∧ p7 ∧ p8 ∧ AllLt d r) (hd : d < x) : ∀ q ∈ r, q.1 ≠ x := allLt_up h.2.2.2.2.2.2.2.2 hd
theorem allLt_u9 {p1 p2 p3 p4 p5 p6 p7 p8 p9 : Prop} {d x : Addr} {r : List (Addr × Obj)} (h : p1 ∧ p2 ∧ p3 ∧ p4 ∧ p5 ∧ p6 ∧ p7 ∧ p8 ∧ p9 ∧ AllLt d r) (hd : d < x) : ∀ q ∈ r, q.1 ≠ x := allLt_up h.2.2.2.2.2.2.2.2.2 hd
theorem allLt_u10 {p1 p2 p3 p4 p5 p6 p7 p8 p9 p10 : Prop} {d x : Addr} {r : List (Addr × Obj)} (h : p1 ∧ p2 ∧ p3 ∧ p4 ∧ p5 ∧ p6 ∧ p7 ∧ p8 ∧ p9 ∧ p10 ∧ AllLt d r) (hd : d < x) : ∀ q ∈ r, q.1 ≠ x := allLt_up h.2.2.2.2.2.2.2.2.2.2 hd
theorem allLt_u11 {p1 p2 p3 p4 p5 p6 p7 p8 p9 p10 p11 : Prop} {d x : Addr} {r : List (Addr × Obj)} (h : p1 ∧ p2 ∧ p3 ∧ p4 ∧ p5 ∧ p6 ∧ p7 ∧ p8 ∧ p9 ∧ p10 ∧ p11 ∧ AllLt d r) (hd : d < x) : ∀ q ∈ r, q.1 ≠ x := allLt_up h.2.2.2.2.2.2.2.2.2.2.2 hd
theorem allLt_u12 {p1 p2 p3 p4 p5 p6 p7 p8 p9 p10 p11 p12 : Prop} {d x : Addr} {r : List (Addr × Obj)} (h : p1 ∧ p2 ∧ p3 ∧ p4 ∧ p5 ∧ p6 ∧ p7 ∧ p8 ∧ p9 ∧ p10 ∧ p11 ∧ p12 ∧ AllLt d r) (hd : d < x) : ∀ q ∈ r, q.1 ≠ x := allLt_up h.2.2.2.2.2.2.2.2.2.2.2.2 hd
def grO (gb d : Addr) (num tk : Value) : Obj := { cls := .ref 157, dict := some d, slots := #[some num, some (.ref gb), some tk] }
def tup2 (a b : Value) : Obj := { cls := .type "tuple", data := .seq #[a, b] }
theorem Grd.back {A : Around} {base g h h' : Heap} {outer : List Env} {led led' news : List (Addr × Obj)} {L : Addr} {m : PySem.Str → Option Value} (G : Grd A base outer g led h) (F : Fr g L h' m) (N : News g L h' news) (hs : ∀ q ∈ led', q ∈ news) : Grd A base outer g led' h' :=
  ⟨G.below, G.dicts, F.keep, Nat.le_trans F.above (Nat.le_of_lt F.ns.lt), fun q hq => ⟨(N q (hs q hq)).1, (N q (hs q hq)).2.2⟩⟩
theorem skip3 {α : Type} {a b c x q : α} {r : List α} (h : q ∈ a :: b :: c :: r) : q ∈ a :: b :: c :: x :: r := by
  simp only [List.mem_cons] at h ⊢
  rcases h with h | h | h | h <;> simp [h]
section
local macro_rules | `(tactic| k_room) => `(tactic| ((try simp only [depth_under_make, depth_under_kw, depth_in1, depth_deeper, depth_caller]); (try dsimp only [At]); simp only [recursionLimit]; omega))
local macro_rules | `(tactic| k_all) => `(tactic| first | with_reducible assumption | exact allLt_get (by with_reducible assumption) | exact allLt_g1 (by with_reducible assumption) | exact allLt_g2 (by with_reducible assumption) | exact allLt_g3 (by with_reducible assumption) | exact allLt_g4 (by with_reducible assumption) | exact allLt_g5 (by with_reducible assumption) | exact allLt_g6 (by with_reducible assumption) | exact allLt_g7 (by with_reducible assumption) | exact allLt_g8 (by with_reducible assumption) | exact allLt_g9 (by with_reducible assumption) | exact allLt_g10 (by with_reducible assumption) | exact allLt_g11 (by with_reducible assumption) | exact allLt_g12 (by with_reducible assumption) | exact allLt_up (by with_reducible assumption) (by with_reducible assumption) | exact allLt_u1 (by with_reducible assumption) (by with_reducible assumption) | exact allLt_u2 (by with_reducible assumption) (by with_reducible assumption) | exact allLt_u3 (by with_reducible assumption) (by with_reducible assumption) | exact allLt_u4 (by with_reducible assumption) (by with_reducible assumption) | exact allLt_u5 (by with_reducible assumption) (by with_reducible assumption) | exact allLt_u6 (by with_reducible assumption) (by with_reducible assumption) | exact allLt_u7 (by with_reducible assumption) (by with_reducible assumption) | exact allLt_u8 (by with_reducible assumption) (by with_reducible assumption) | exact allLt_u9 (by with_reducible assumption) (by with_reducible assumption) | exact allLt_u10 (by with_reducible assumption) (by with_reducible assumption) | exact allLt_u11 (by with_reducible assumption) (by with_reducible assumption) | exact allLt_u12 (by with_reducible assumption) (by with_reducible assumption))
local macro_rules | `(tactic| size_fits) => `(tactic| exact Nat.le_of_ble_eq_true rfl)
set_option maxRecDepth 100000 in
set_option maxHeartbeats 8000000 in
theorem gb_first {w : World} {base : Heap} {loose : List PySem.Str} {mean : ExcName → Option Value} {mg mb : PySem.Str → Option Value} (XB : (KF w).In base) (TB : Top PySem.W.topProg loose mean mg mb base)
   {dp un : Nat} {outer : List Env} {gd : Option (List Code)} {s : Shared} {Q : Option Value → Shared → Prop} {E : Value → Shared → Prop} {g : Heap} {x : List Nat} {f I gb d l : Addr} {os r : List (Addr × Obj)} {vs : List Value} {n : Nat}
   {t t1 t2 : Tok} {z : List Nat}
   (hL : LamSpec w base x f os) (hd : dp < 980) (hz : z ≠ []) (hzl : z.length ≤ 100) (hb : decide (z.head? = x.head?) = true) (hx : vs[0]? = some (.str (S z) t))
   (G : Grd (At dp (some outer) gd un) base outer g ((I, iterO l 0) :: (gb, gbO I f d (.int 0 t1) .none .none (.bool false) (.bool false) (.bool false) (.int 0 t2) .none) :: (d, dictOf [] 0) :: r) s.heap)
   (hos : ∀ q ∈ os, q ∈ r) (hl : (l, listOf vs.toArray n) ∈ r) (offI : ∀ q ∈ r, q.1 ≠ I) (offgb : ∀ q ∈ r, q.1 ≠ gb) (hI1 : gb ≠ I) (hI2 : d ≠ I) (hI3 : d ≠ gb) (hI4 : I ≠ gb)
   (k : ∀ h' tk T gr dd t c1 c2 c3, Grd (At dp (some outer) gd un) base outer g ((T, tup2 (.bool true) (.ref gr)) :: (gr, grO gb dd (.int 1 c3) (.bool true)) :: (dd, dictOf [] 0) :: (I, iterO l 1) :: (gb, gbO I f d (.int 1 c1) (.bool true) (.str (S z) t) (.bool true) (.bool true) (.bool true) (.int 1 c2) (.bool true)) :: (d, dictOf [] 0) :: r) h' →
     (∃ D0 : Addr, D0 < dd ∧ I < dd ∧ gb < dd ∧ d < dd ∧ AllLt dd r) → dd < gr → gr < T → Q (some (.ref T)) { s with heap := h', toks := tk }) :
   wpAny (model PR w) (At dp (some outer) gd un) (pyNext (.ref gb)) Q E s := by
   delta PR KF at *
   revert XB; k_fill; intro XB
   have hd0 := (G.led _ (.tail _ (.tail _ (.head _)))).1
   have hgb := (G.led _ (.tail _ (.head _))).1
   refine' gr_next (XB.keeps (fun b o e => G.keep b o (G.below.stays b o e))) (C := 112) (ox := gbO I f d (.int 0 t1) .none .none (.bool false) (.bool false) (.bool false) (.int 0 t2) .none) (od := some (dictOf [] 0)) ?inst ?f1 ?f2 ?_
   case f1 => k_is
   case f2 => k_is
   case inst => exact ⟨hgb, rfl, rfl, hd0⟩
   refine wpAny_call ?_
   k_dflt (refine' enter_grd G XB TB ?k6 ?k7 ?k8 ?k9 ?kB ?_ ?c2 ?c3 ?c4 ?c5; (case k6 => k_is); (case k7 => k_is); (case k8 => k_room); (case k9 => exact BindsTo.of_eq rfl); (case kB => exact locs rfl); (case c2 => exact rfl); (case c3 => exact rfl); (case c4 => exact rfl); (case c5 => decide); k_whole)
   intro L h₁ hLs F' N' B' X' T' D' K0
   (try dsimp only)
   repeat' ((fail_if_success (with_reducible show wpAny _ _ (call (Value.builtin "next") [Value.ref I]) _ _ _)); first | (k_unfold; (try dsimp only)) | (k_end; wrow_close) | walk1 | (dsimp only; walk1) | (leave1; walk_say "STEP leave1"; try dsimp only) | fail "no step")
   refine li_next (by k_asm) (by k_asm) (by k_updF) (by repeat (first | exact hl | refine List.Mem.tail _ ?_)) hx ?_
   intro h' F' N'
   (try dsimp only at N')
   k_sweep
   repeat' ((fail_if_success (with_reducible show wpAny _ _ (getMethod (Value.ref _) (PySem.Str.ofString "_keyfunc") _) _ _ _)); first | (k_unfold; (try dsimp only)) | (k_end; wrow_close) | walk1 | (dsimp only; walk1) | (leave1; walk_say "STEP leave1"; try dsimp only) | fail "no step")
   k_dflt (refine' method_usual ?qX ?qI ?qa ?qb ?qc ?qd ?_; (case qX => k_in); (case qI => k_inst); (case qa => k_is); (case qb => k_is); (case qc => k_is); (case qd => first | k_is | exact rfl | decide +kernel); k_whole)
   repeat' ((fail_if_success (with_reducible show wpAny _ _ (callWith _ (Prod.fst (Value.ref f, _)) _ _ _) _ _ _)); first | (k_unfold; (try dsimp only)) | (k_end; wrow_close) | walk1 | (dsimp only; walk1) | (leave1; walk_say "STEP leave1"; try dsimp only) | fail "no step")
   dsimp only
   refine callWith_F (fn_S hL (by k_asm) (fun q hq => by repeat (first | exact hos q hq | refine List.Mem.tail _ ?_))) ?_
   repeat' ((fail_if_success (with_reducible show wpAny _ _ (call (Value.ref f) _) _ _ _)); first | (k_unfold; (try dsimp only)) | (k_end; wrow_close) | walk1 | (dsimp only; walk1) | (leave1; walk_say "STEP leave1"; try dsimp only) | fail "no step")
   · exact fn_S hL (by k_asm) (fun q hq => by repeat (first | exact hos q hq | refine List.Mem.tail _ ?_))
   refine lam_S hL (by k_asm) (by k_asm) (by k_asm) rfl (show ScopeKind.function ≠ ScopeKind.module from by decide) (by (try dsimp only [At]); show _ < 990; simp only [Around.deeper]; omega) hz hzl (fun q hq => by repeat (first | exact hos q hq | refine List.Mem.tail _ ?_)) ?_
   rw [hb]
   intro h' tk F' N'
   k_steps
   refine k _ _ _ _ _ _ _ _ _ (G.back (by k_asm) (by k_asm) (fun q hq => skip3 hq)) ⟨_, by with_reducible assumption⟩ (by with_reducible assumption) (And.left (by with_reducible assumption))
end
end Mine
end

section
open PySem PySem.W PySem.Calls PyProof.Rows PySem.Spec
set_option Elab.async false
set_option maxRecDepth 100000
namespace Mine
abbrev lstO (acc : Array Value) (c : Nat) : Obj := { cls := .type "list", dict := none, data := .seq acc c, slots := #[] }
section
variable {prog : Program} {w : World} {A : Around} {R : Result → Shared → Prop} {s : Shared}
theorem ext_step {S I : Addr} {res : Value} (h : wpAny (model prog w) A.in1 (pyNext (.ref I)) (fun r s' => match r with
      | none => R (.ok (.ret res)) s'
      | some v => ∃ acc c, s'.heap.get? S = some (lstO acc c) ∧ acc.size + 1 ≤ sizeLine ∧ ∀ h' c', h'.get? S = some (lstO (acc.push v) c') → Heap.SameBut S s'.heap h' → s'.heap.objs.size ≤ h'.objs.size → codeAny (model prog w) A (.builtin "list.extend.loop" ⟨[.ref S, .ref I, res], []⟩) R { s' with heap := h' }) (fun e s' => R (.error e) s') s) :
    codeAny (model prog w) A (.builtin "list.extend.loop" ⟨[.ref S, .ref I, res], []⟩) R s := by
  refine codeAny_builtin PySem.F.entry_extend_loop ?_
  rw [Around.under_plainId PySem.F.plain_extend_loop _]
  show wpAny _ A.in1 (pyNext (.ref I) >>= _) _ _ s
  refine wpAny_bind (wpAny_mono h (fun r s' hr => ?_) fun _ _ e => e)
  cases r with
  | none => exact wpAny_pure hr
  | some v =>
    obtain ⟨acc, c, hS, hz, hk⟩ := hr
    show wpAny _ A.in1 (updateSeq S (·.push v) >>= _) _ _ _
    refine wpAny_bind ?_
    refine wpAny_updateSeq hS rfl (wpAny_pure ⟨plainId_quiet PySem.F.plain_extend_loop _, hk _ _ (Heap.get?_update_self (Obj.mapSeq (·.push v)) hS rfl) (Heap.SameBut.update ..) (by rw [upd_size]; exact Nat.le_refl _)⟩) (by omega) (by show (acc.push v).size ≤ sizeLine + 1; rw [Array.size_push]; omega)
/-- list(x), x an own instance that is its own iterator and tells no length -/
theorem own_list {K : Frag} {x C : Addr} {ox : Obj} {od : Option Obj} {Q : Value → Shared → Prop} {E : Value → Shared → Prop} (X : K.In s.heap) (I : InstAt s.heap x ox C od)
    (hlen : findIn K (.ref C) "__len__" = some none) (hhint : findIn K (.ref C) "__length_hint__" = some none)
    (hit : ∀ h' c (Q' : Value → Shared → Prop) E', (∀ b o, s.heap.get? b = some o → h'.get? b = some o) → h'.get? s.heap.objs.size = some (lstO #[] c) →
      (∀ h2 tk, (∀ b o, h'.get? b = some o → h2.get? b = some o) → Q' (.ref x) { s with heap := h2, toks := tk }) → wpAny (model prog w) A.in1.in1 (pyIter (.ref x)) Q' E' { s with heap := h' })
    (hloop : ∀ h' tk c, (∀ b o, s.heap.get? b = some o → h'.get? b = some o) → h'.get? s.heap.objs.size = some (lstO #[] c) →
      codeAny (model prog w) A.in1 (.builtin "list.extend.loop" ⟨[.ref s.heap.objs.size, .ref x, .none], []⟩) (wants (fun r s₂ => r = .none ∧ Q (.ref s.heap.objs.size) s₂) E) { s with heap := h', toks := tk }) :
    wpAny (model prog w) A (call (.type "list") [.ref x]) Q E s := by
  refine callType_codes (Q₁ := fun obj s₁ => obj = .ref s.heap.objs.size ∧ s₁ = { s with heap := s.heap.push { cls := .type "list", data := .seq #[] } }) PySem.F.called_list (PySem.F.typeCall_list_1 _) PySem.F.entry_list_init
    (code_list_new _ ⟨rfl, rfl⟩) fun obj s₁ h₁ => ?_
  obtain ⟨rfl, rfl⟩ := h₁
  have hS : (s.heap.push { cls := .type "list", data := .seq #[] }).get? s.heap.objs.size = some { cls := .type "list", data := .seq #[] } := Heap.get?_push_size _ rfl
  refine ⟨⟨_, hS, rfl⟩, PySem.F.args_list_init_2 _ _, ?_⟩
  generalize hSd : s.heap.objs.size = S at hS hit hloop ⊢
  have k0 : ∀ b o, s.heap.get? b = some o → b ≠ S := fun b o e => by rw [← hSd]; exact Nat.ne_of_lt (Heap.lt_size e)
  show wpAny _ _ (do let old ← Builtin.List.listItems (.ref S); Builtin.List.listUpdate (.ref S) (fun _ => #[]); letGo old.toList.reverse; Builtin.List.listExtendWith (.ref S) (.ref x) .none) _ _ _
  refine wpAny_bind ?_
  unfold Builtin.List.listItems
  refine wpAny_bind (wpAny_seqItems hS rfl (wpAny_pure ?_))
  show wpAny _ _ (updateSeq S (fun _ => #[]) >>= fun _ => letGo (#[] : Array Value).toList.reverse >>= fun _ => Builtin.List.listExtendWith (.ref S) (.ref x) .none) _ _ _
  refine wpAny_bind (wpAny_updateSeq hS rfl ?_)
  have hS₂ := Heap.get?_update_self (Obj.mapSeq (fun _ => (#[] : Array Value))) hS rfl
  have k2 : ∀ b o, s.heap.get? b = some o → ((s.heap.push { cls := .type "list", data := .seq #[] }).update S (Obj.mapSeq (fun _ => (#[] : Array Value)))).get? b = some o := fun b o e =>
    (Heap.get?_update_other _ _ (Ne.symm (k0 b o e))).trans (Heap.get?_push_of_some _ e)
  refine wpAny_bind (wpAny_letGo ?_)
  have kI : ∀ h2 : Heap, (∀ b o, s.heap.get? b = some o → h2.get? b = some o) → InstAt h2 x ox C od := fun h2 hk => ⟨hk _ _ I.at_, I.cls, I.no, by
    have hd := I.dict
    revert hd
    cases ox.dict <;> cases od <;> first | exact id | exact hk _ _⟩
  have kX : ∀ h2 : Heap, (∀ b o, s.heap.get? b = some o → h2.get? b = some o) → K.In h2 := fun h2 hk => X.keeps hk
  have hxS : x ≠ S := k0 x _ I.at_
  unfold Builtin.List.listExtendWith
  refine wpAny_bind ((kI _ k2).type.here ?_)
  have h1 : Builtin.List.listSameRef (.ref S) (.ref x) = false := by simp [Builtin.List.listSameRef, hxS.symm]
  have h2 : (Value.ref C == Value.type "list") = false := rfl
  have h3 : (Value.ref C == Value.type "tuple") = false := rfl
  simp only [h1, h2, h3, Bool.or_false, Bool.false_eq_true, if_false]
  refine wpAny_bind (hit _ _ _ _ k2 hS₂ fun h5 tk5 hk5 => ?_)
  have k5 : ∀ b o, s.heap.get? b = some o → h5.get? b = some o := fun b o e => hk5 b o (k2 b o e)
  have hS5 := hk5 _ _ hS₂
  refine wpAny_bind (wpAny_holding ?_)
  unfold Builtin.List.listLengthHint
  refine wpAny_bind (wpAny_bind ((kI _ k5).type.here ((looks_findIn (kX _ k5) hlen).here ?_)))
  dsimp only
  refine wpAny_bind (wpAny_bind ((kI _ k5).type.here ((looks_findIn (kX _ k5) hhint).here ?_)))
  dsimp only
  refine wpAny_pure ?_
  simp only [Bool.true_or, if_true]
  refine wpAny_bind (wpAny_rule ?_)
  refine wpAny_bind ?_
  show wpAny _ _ (updateSeq S (·.push .none) >>= fun _ => updateSeq S (·.pop)) _ _ _
  refine wpAny_bind (wpAny_updateSeq hS5 rfl ?_)
  have hS6 := Heap.get?_update_self (Obj.mapSeq (·.push Value.none)) hS5 rfl
  refine wpAny_updateSeq (hz := by seq_fits) hS6 rfl ?_
  have hS7 := Heap.get?_update_self (Obj.mapSeq (·.pop)) hS6 rfl
  refine wpAny_pure ⟨plainId_quiet PySem.F.plain_extend_loop _, ?_⟩
  refine hloop _ _ _ (fun b o e => ?_) hS7
  exact (Heap.get?_update_other _ _ (Ne.symm (k0 b o e))).trans ((Heap.get?_update_other _ _ (Ne.symm (k0 b o e))).trans (k5 b o e))
end
end Mine
end

section
open PySem PySem.W PySem.Calls PyProof.Rows PySem.Builtin.Re
set_option Elab.async false
set_option maxRecDepth 100000
namespace Mine
structure PatAt (h : Heap) : Prop where
  pat : ∃ o v0 v1 v3 v4 t2 t6, h.get? 43 = some o ∧ o.cls = .type "re.Pattern" ∧ o.data = .fields #[v0, v1, .int 0 t2, v3, v4, .ref 42, .int 0 t6]
  code : ∃ o xs n, h.get? 42 = some o ∧ o.data = .seq xs n ∧ (xs.map reRawOf).map (·.toNat) = csCode
theorem PatAt.keeps {h h' : Heap} (x : PatAt h) (hk : ∀ b o, (b = 43 ∨ b = 42) → h.get? b = some o → h'.get? b = some o) : PatAt h' := by
  obtain ⟨⟨o, v0, v1, v3, v4, t2, t6, h1, h2, h3⟩, ⟨o', xs, n, g1, g2, g3⟩⟩ := x
  exact ⟨⟨o, v0, v1, v3, v4, t2, t6, hk _ _ (.inl rfl) h1, h2, h3⟩, ⟨o', xs, n, hk _ _ (.inr rfl) g1, g2, g3⟩⟩
section
variable {M : Model} {A : Around} {E : Value → Shared → Prop} {s : Shared}
theorem wholeT {x : PySem.Str} {t : Tok} {Q : ReTarget → Shared → Prop} (hp : PatAt s.heap) (h : Q ⟨.ref 43, .str x t, csCode, x.cps, 0, 0, 0, x.cps.size⟩ s) : wpAny M A (reWholeTarget (.ref 43) (.str x t)) Q E s := by
  obtain ⟨⟨o, v0, v1, v3, v4, t2, t6, h1, h2, h3⟩, ⟨o', xs, n, g1, g2, g3⟩⟩ := hp
  unfold reWholeTarget
  refine wpAny_bind (wpAny_fieldsOf h1 h3 ?_)
  refine wpAny_bind ?_
  unfold reTextOf
  show wpAny M A (pure (x.cps, 0)) _ _ _
  refine wpAny_pure ?_
  show wpAny M A (reNoCollectionInside (.str x t) 0 >>= fun _ => _) _ _ _
  refine wpAny_bind ?_
  unfold reNoCollectionInside
  refine wpAny_pure ?_
  refine wpAny_bind ?_
  show wpAny M A (reRawItems (.ref 42)) _ _ _
  unfold reRawItems
  refine wpAny_bind (wpAny_seqItems g1 g2 (wpAny_pure ?_))
  show wpAny M A (pure _) _ _ _
  refine wpAny_pure ?_
  rw [show ((((some xs : Option (Array Value)).getD #[]).map reRawOf).map (·.toNat)) = csCode from g3]
  exact h
theorem first_mark : ∀ l : List Nat, (∀ x ∈ l, isMark x = false) ∨ ∃ pre c post, l = pre ++ c :: post ∧ (∀ x ∈ pre, isMark x = false) ∧ isMark c = true
  | [] => .inl fun _ h => nomatch h
  | c :: l => by
    cases hc : isMark c with
    | true => exact .inr ⟨[], c, l, rfl, (fun _ h => nomatch h), hc⟩
    | false =>
      rcases first_mark l with h | ⟨pre, d, post, rfl, h1, h2⟩
      · exact .inl fun x hx => by
          rcases List.mem_cons.mp hx with rfl | hx
          · exact hc
          · exact h x hx
      · exact .inr ⟨c :: pre, d, post, rfl, fun x hx => by
          rcases List.mem_cons.mp hx with rfl | hx
          · exact hc
          · exact h1 x hx, h2⟩
theorem mark_marks (c : Nat) : isMark c = marks.contains c := by
  unfold isMark marks
  by_cases h : c = 45 ∨ c = 91 ∨ c = 92 ∨ c = 93 ∨ c = 94
  · rcases h with rfl | rfl | rfl | rfl | rfl <;> rfl
  · have e1 : (c == 45) = false := by simp; omega
    have e2 : (decide (91 ≤ c) && decide (c ≤ 94)) = false := by simp; omega
    rw [e1, e2]
    symm
    simp only [List.contains_eq_mem, Bool.false_or, decide_eq_false_iff_not]
    intro q
    simp only [List.mem_cons, List.not_mem_nil, or_false] at q
    omega
theorem enc_plain : ∀ {l : List Nat}, (∀ x ∈ l, isMark x = false) → encL l = l
  | [], _ => rfl
  | c :: l, h => by
    have e : encL (c :: l) = encC c ++ encL l := by simp [encL, List.flatMap_cons]
    rw [e, enc_plain fun x hx => h x (List.mem_cons_of_mem _ hx), encC, if_neg (by rw [← mark_marks, h c (List.mem_cons_self ..)]; simp)]
    rfl
theorem enc_mark {c : Nat} (h : isMark c = true) : encC c = [92, c] := by rw [encC, if_pos (by rw [← mark_marks]; exact h)]
theorem enc_app (a b : List Nat) : encL (a ++ b) = encL a ++ encL b := by simp [encL]
theorem found_some {cs pre post : List Nat} {i c : Nat} {x : Value} {Q : Option Sre.M → Shared → Prop} (hd : cs.drop i = pre ++ c :: post) (hi : i ≤ cs.length) (hp : ∀ x ∈ pre, isMark x = false) (hc : isMark c = true)
    (h : ∀ m : Sre.M, m.start = i + pre.length → m.handed = i + pre.length + 1 → Q (some m) s) : wpAny M A (reNextFound ⟨.ref 43, x, csCode, (S cs).cps, 0, 0, 0, (S cs).cps.size⟩ i false) Q E s := by
  have hget : ∀ k, cs[i + k]? = (pre ++ c :: post)[k]? := fun k => by rw [← hd, List.getElem?_drop]
  have gd : ∀ k, (S cs).cps.getD (i + k) 0 = ((pre ++ c :: post)[k]?).getD 0 := fun k => by
    rw [← hget k]; simp [S, Array.getD_eq_getD_getElem?]
  have hlen : cs.length = i + pre.length + 1 + post.length := by
    have := congrArg List.length hd
    simp only [List.length_drop, List.length_append, List.length_cons] at this
    omega
  obtain ⟨m', e, h1, h2, h3⟩ := search_some (text := (S cs).cps) (b := i) (j := i + pre.length) (Nat.le_add_right _ _) (by show _ < cs.toArray.size; rw [List.size_toArray]; omega) (by rw [gd]; simpa using hc) (fun k h1 h2 => by
    obtain ⟨d, rfl⟩ : ∃ d, k = i + d := ⟨k - i, by omega⟩
    rw [gd, List.getElem?_append_left (by omega), List.getElem?_eq_getElem (by omega)]
    exact hp _ (List.getElem_mem _))
  unfold reNextFound
  exact reRun_matched e h1 (h m' h2 h3)
theorem found_none {cs : List Nat} {i : Nat} {x : Value} {Q : Option Sre.M → Shared → Prop} (hp : ∀ x ∈ cs.drop i, isMark x = false) (h : Q none s) :
    wpAny M A (reNextFound ⟨.ref 43, x, csCode, (S cs).cps, 0, 0, 0, (S cs).cps.size⟩ i false) Q E s := by
  obtain ⟨m', e, h1⟩ := search_none (text := (S cs).cps) (b := i) (fun k h1 h2 => by
    have h2 : k < cs.toArray.size := h2
    rw [List.size_toArray] at h2
    have : cs[k] ∈ cs.drop i := by
      have e : (cs.drop i)[k - i]? = some cs[k] := by rw [List.getElem?_drop, show i + (k - i) = k by omega, List.getElem?_eq_getElem h2]
      exact List.mem_of_getElem? e
    have := hp _ this
    simpa [S, Array.getD_eq_getD_getElem?, h2] using this)
  unfold reNextFound
  exact reRun_failed e h1 h
end
end Mine
end

section
open PySem PySem.W PySem.Calls PyProof.Rows PySem.Builtin.Re
set_option Elab.async false
set_option maxRecDepth 100000
namespace Mine
section
variable {prog : Program} {w : World} {A : Around} {s s0 : Shared} {R : Result → Shared → Prop} {f P : Addr} {cs : List Nat} {t : Tok}
abbrev matchO (cs : List Nat) (t : Tok) (li : Int) (tp : Addr) : Obj := { cls := .type "re.Match", data := .fields #[.str (S cs) t, .ref 43, .int 0 0, .int cs.length 0, .int li 0, .ref tp] }
abbrev spanO (j : Nat) : Obj := { cls := .type "tuple", data := .seq #[.int j 0, .int (j + 1 : Nat) 0] }
/-- what the lambda of make_charset answers to a match -/
def SubLam (prog : Program) (w : World) (A1 : Around) (s0 : Shared) (f P : Addr) (cs : List Nat) (t : Tok) : Prop :=
  ∀ (s : Shared) (ma tp : Addr) (li : Int) (j c : Nat) (Q E : Value → Shared → Prop), (∀ b o, b ≠ P → s0.heap.get? b = some o → s.heap.get? b = some o) → s.heap.get? ma = some (matchO cs t li tp) → s.heap.get? tp = some (spanO j) → cs[j]? = some c →
    (∀ h' tk t', (∀ b o, s.heap.get? b = some o → h'.get? b = some o) → Q (.str (S [92, c]) t') { s with heap := h', toks := tk }) → wpAny (model prog w) A1 (call (.ref f) [.ref ma]) Q E s
theorem newMatch_N {E : Value → Shared → Prop} {lim : Nat} {m : Sre.M} {Q : Value → Shared → Prop} (hlim : lim = cs.length)
   (h : ∀ h' tp ma, (∀ b o, s.heap.get? b = some o → h'.get? b = some o) → h'.get? ma = some (matchO cs t m.lastindex tp) → h'.get? tp = some { cls := .type "tuple", data := .seq #[.int m.start 0, .int m.handed 0] } → Q (.ref ma) { s with heap := h' }) :
   wpAny (model prog w) A (reNewMatch (.ref 43) (.str (S cs) t) 0 0 lim m) Q E s := by
  subst hlim
  unfold reNewMatch
  simp only [List.range_zero, List.flatMap_nil, List.any_nil, Bool.false_eq_true, if_false]
  refine wpAny_bind (wpAny_newTuple ?_)
  unfold newFields
  refine wpAny_newObj_type ?_
  refine h _ s.heap.objs.size _ (fun b o e => Heap.get?_push_of_some _ (Heap.get?_push_of_some _ e)) (Heap.get?_push_size _ rfl) (Heap.get?_push_of_some _ (Heap.get?_push_size _ rfl))
abbrev subArgs (cs : List Nat) (t : Tok) (f P : Addr) (n : Int) (i : Nat) : Args := ⟨[.ref 43, .str (S cs) t, .ref f, rawInt 1, rawInt 0, rawInt n, rawInt i, rawInt i, .bool false, .ref P, .bool false], []⟩
theorem strs_pairs {vs : List Value} {ss : List PySem.Str} (h : StrsAre vs ss) : ∃ l : List (PySem.Str × Tok), strValues l = vs ∧ l.map (·.1) = ss := by
  induction h with
  | nil => exact ⟨[], rfl, rfl⟩
  | cons x t _ ih =>
    obtain ⟨l, h1, h2⟩ := ih
    exact ⟨(x, t) :: l, by simp only [strValues] at h1 ⊢; rw [List.map_cons, h1], by rw [List.map_cons, h2]⟩
theorem join_parts : ∀ parts : List (List Nat), Str.join (S []) (parts.map S) = S parts.flatten
  | [] => rfl
  | [x] => by show S x = _; simp
  | x :: y :: r => by
    have ih := join_parts (y :: r)
    show S x ++ S [] ++ Str.join (S []) ((y :: r).map S) = _
    rw [ih, S_app, S_app]
    simp
theorem join_ok {parts : List (List Nat)} (h : parts.flatten.length ≤ 100000) : JoinOk (S []) (parts.map S) = true := by
  unfold JoinOk
  rw [StrLaws.joinTotal]
  have e : ((parts.map S).map (·.length)).sum = parts.flatten.length := by
    rw [List.length_flatten, List.map_map]
    congr 1
  rw [e, S_len]
  simp only [Builtin.Str.tooLong, List.length_nil, Nat.mul_zero, Nat.add_zero]
  rw [decide_eq_false (by simp only [sizeLine]; omega)]
  rfl
theorem sub_tail {parts : List (List Nat)} {acc : Array Value} {c : Nat} {Q : Fin → Shared → Prop} {E : Value → Shared → Prop} {x : Value} (hS : s.heap.get? P = some (lstO acc c)) (ha : StrsAre acc.toList (parts.map S)) (hl : parts.flatten.length ≤ 100000)
   (h : ∀ tk t', Q (.done (.ret (.str (S parts.flatten) t'))) { s with toks := tk }) :
   wpAny (model prog w) A (do
      let joiner ← reSlice (ReTarget.mk (.ref 43) x csCode (S cs).cps 0 0 0 (S cs).cps.size).text (ReTarget.mk (.ref 43) x csCode (S cs).cps 0 0 0 (S cs).cps.size).kind 0 0
      let xs ← seqItems? (.ref P)
      let text ← if (xs.getD #[]).isEmpty = true then pure joiner else call (.builtin (if ((ReTarget.mk (.ref 43) x csCode (S cs).cps 0 0 0 (S cs).cps.size).kind == 0) = true then "str.join" else "bytes.join")) [joiner, .ref P]
      ret text) Q E s := by
  refine wpAny_bind (m := reSlice _ _ 0 0) ?_
  show wpAny _ _ (mkStr ⟨(S cs).cps.extract 0 0⟩) _ _ _
  rw [show (⟨(S cs).cps.extract 0 0⟩ : PySem.Str) = S [] by simp [S]]
  refine wpAny_mkStr ?_ (by simp [S_len])
  refine wpAny_bind (wpAny_seqItems hS rfl ?_)
  rw [show ((some acc : Option (Array Value)).getD #[]) = acc from rfl]
  by_cases he : acc.isEmpty = true
  · rw [if_pos he]
    refine wpAny_bind (wpAny_pure ?_)
    have e0 : acc = #[] := Array.isEmpty_iff.mp he
    subst e0
    cases parts with
    | nil => exact wpAny_pure (h _ _)
    | cons y r => cases ha
  · rw [if_neg he]
    obtain ⟨l, h1, h2⟩ := strs_pairs ha
    refine wpAny_bind ?_
    show wpAny _ _ (call (.builtin "str.join") _) _ _ _
    refine SC.join (l := l) (texts := parts.map S) ⟨_, hS, rfl, c, by rw [h1, Array.toArray_toList]⟩ h2 (join_ok hl) fun t' k => ?_
    have e : Txt.join (S []) (parts.map S) = S parts.flatten := by
      show Builtin.Str.glued (S []) _ = _
      rw [StrLaws.glued_eq_join, join_parts]
    rw [e]
    exact wpAny_pure (h _ _)
theorem take_on {cs pre post : List Nat} {i c : Nat} (hd : cs.drop i = pre ++ c :: post) (hi : i ≤ cs.length) : cs.take (i + pre.length + 1) = cs.take i ++ (pre ++ [c]) ∧ i + pre.length + 1 ≤ cs.length := by
  have hlen : cs.length = i + pre.length + 1 + post.length := by
    have := congrArg List.length hd
    simp only [List.length_drop, List.length_append, List.length_cons] at this
    omega
  refine ⟨?_, by omega⟩
  have e : cs = cs.take i ++ (pre ++ [c]) ++ post := by
    conv => lhs; rw [← List.take_append_drop i cs, hd]
    simp
  have hl : (cs.take i ++ (pre ++ [c])).length = i + pre.length + 1 := by
    simp only [List.length_append, List.length_take, List.length_cons, List.length_nil]; omega
  conv => lhs; rw [e]
  rw [← hl, List.take_left']
  rfl
theorem slice_of {cs pre post : List Nat} {i c : Nat} (hd : cs.drop i = pre ++ c :: post) : (⟨(S cs).cps.extract i (i + pre.length)⟩ : PySem.Str) = S pre := by
  have : (cs.drop i).take pre.length = pre := by rw [hd, List.take_left']; rfl
  simp only [S, List.extract_toArray, List.extract_eq_take_drop]
  rw [show i + pre.length - i = pre.length by omega, this]
theorem encL_len' (x : List Nat) : (encL x).length ≤ 2 * x.length := by
  induction x with
  | nil => exact Nat.le_refl _
  | cons c r ih =>
    have e : encL (c :: r) = encC c ++ encL r := by simp [encL, List.flatMap_cons]
    rw [e, List.length_append, List.length_cons]
    have : (encC c).length ≤ 2 := by unfold encC; split <;> simp
    omega
theorem flat_snoc (parts : List (List Nat)) (x : List Nat) : (parts ++ [x]).flatten = parts.flatten ++ x := by simp
theorem strs_push' {acc : Array Value} {parts : List (List Nat)} {x : List Nat} {u : Tok} (h : StrsAre acc.toList (parts.map S)) : StrsAre (acc.push (.str (S x) u)).toList ((parts ++ [x]).map S) := by
  rw [Array.toList_push, List.map_append]
  exact h.append' (.cons _ _ .nil)
theorem slice_end (cs : List Nat) (i : Nat) : (⟨(S cs).cps.extract i (S cs).cps.size⟩ : PySem.Str) = S (cs.drop i) := by
  simp only [S, List.extract_toArray, List.extract_eq_take_drop, List.size_toArray]
  rw [List.take_of_length_le (by simp)]
/-- the loop of Pattern.sub -/
theorem sub_run (hlam : SubLam prog w A.in1 s0 f P cs t) (hp : PatAt s0.heap) (h43 : P ≠ 43) (h42 : P ≠ 42) (hl : cs.length ≤ 1000)
   (hR : ∀ h' tk t', (∀ b o, b ≠ P → s0.heap.get? b = some o → h'.get? b = some o) → R (.ok (.ret (.str (S (encL cs)) t'))) { s0 with heap := h', toks := tk }) :
   ∀ (k i : Nat) (n : Int) (h : Heap) (tk : Nat) (acc : Array Value) (c : Nat) (parts : List (List Nat)), cs.length - i = k → i ≤ cs.length → (∀ b o, b ≠ P → s0.heap.get? b = some o → h.get? b = some o) → h.get? P = some (lstO acc c) →
     StrsAre acc.toList (parts.map S) → parts.flatten = encL (cs.take i) → acc.size ≤ 2 * i → codeAny (model prog w) A (.builtin "re.Pattern.sub.loop" (subArgs cs t f P n i)) R { s0 with heap := h, toks := tk } := by
  intro k
  induction k using Nat.strongRecOn with
  | ind k ih =>
  intro i n h tk acc c parts hk hi hkeep hS ha hfl hsz
  refine codeAny_builtin entry_sub_loop ?_
  rw [Around.under_plainId plain_sub_loop]
  unfold Builtin.«re.Pattern.sub.loop»
  dsimp only [subArgs, rawInt]
  have hp' : PatAt h := hp.keeps fun b o hb e => hkeep b o (by rcases hb with rfl | rfl; exact h43.symm; exact h42.symm) e
  refine wpAny_bind (wholeT hp' ?_)
  rw [if_neg (show ¬ ((1 : Int) == 0) = true by decide)]
  refine wpAny_bind ?_
  rw [if_neg (by simp), Int.toNat_natCast]
  rcases first_mark (cs.drop i) with hnone | ⟨pre, d, post, hd, hpre, hd2⟩
  · refine found_none hnone ?_
    dsimp only
    have hfin : parts.flatten ++ cs.drop i = encL cs := by
      rw [hfl]
      conv => rhs; rw [← List.take_append_drop i cs, enc_app, enc_plain hnone]
    have hel := encL_len' cs
    have hdl : (cs.drop i).length ≤ 1000 := by rw [List.length_drop]; omega
    by_cases hlt : i < (S cs).cps.size
    · rw [if_pos hlt]
      refine wpAny_bind ?_
      show wpAny _ _ (mkStr ⟨(S cs).cps.extract i (S cs).cps.size⟩) _ _ _
      rw [slice_end]
      refine wpAny_mkStr ?_ (by rw [S_len]; simp only [sizeLine]; omega)
      refine wpAny_bind (wpAny_updateSeq hS rfl ?_ (by simp only [sizeLine]; omega) (by rw [Array.size_push]; simp only [sizeLine]; omega))
      have hS2 := Heap.get?_update_self (Obj.mapSeq (·.push (Value.str (S (cs.drop i)) tk))) hS rfl
      refine sub_tail (parts := parts ++ [cs.drop i]) hS2 (strs_push' ha) (by rw [flat_snoc, hfin]; omega) fun tk' t' => ?_
      rw [flat_snoc, hfin]
      exact hR _ _ _ fun b o hb e => (Heap.SameBut.update ..).extBut b o hb (hkeep b o hb e)
    · rw [if_neg hlt]
      have he : cs.drop i = [] := List.drop_of_length_le (by
        have : ¬ i < cs.toArray.size := hlt
        rw [List.size_toArray] at this
        omega)
      rw [he, List.append_nil] at hfin
      refine sub_tail (parts := parts) hS ha (by rw [hfin]; omega) fun tk' t' => ?_
      rw [hfin]
      exact hR _ _ _ hkeep
  · obtain ⟨htk, hle⟩ := take_on hd hi
    refine found_some hd hi hpre hd2 fun m hm1 hm2 => ?_
    dsimp only
    have hcd : cs[i + pre.length]? = some d := by
      have : (cs.drop i)[pre.length]? = some d := by rw [hd]; simp
      rwa [List.getElem?_drop] at this
    have hpl : pre.length ≤ 1000 := by omega
    -- the lambda's part
    have go : ∀ (h : Heap) (tk : Nat) (acc : Array Value) (c : Nat) (parts : List (List Nat)), (∀ b o, b ≠ P → s0.heap.get? b = some o → h.get? b = some o) → h.get? P = some (lstO acc c) → StrsAre acc.toList (parts.map S) → parts.flatten = encL (cs.take i) ++ pre → acc.size ≤ 2 * i + 1 →
        wpAny (model prog w) A.in1 (do
          let found ← reNewMatch (.ref 43) (.str (S cs) t) 0 0 (S cs).cps.size m
          let item ← holding [found] (call (.ref f) [found])
          if (item != Value.none) = true then do
            updateSeq P fun x => x.push item
            again (.builtin "re.Pattern.sub.loop" (subArgs cs t f P (n + 1) (i + pre.length + 1)))
          else again (.builtin "re.Pattern.sub.loop" (subArgs cs t f P (n + 1) (i + pre.length + 1))))
        (fun fin s' => match fin with | .done f => R (.ok f) s' | .again c' => c'.quiet = true ∧ codeAny (model prog w) A c' R s') (fun e s' => R (.error e) s') { s0 with heap := h, toks := tk } := by
      intro h tk acc c parts hkeep hS ha hfl hsz
      refine wpAny_bind (newMatch_N (by show cs.toArray.size = _; rw [List.size_toArray]) fun h2 tp ma hk2 hma htp => ?_)
      refine wpAny_bind (wpAny_holding ?_)
      rw [hm1, hm2] at htp
      refine hlam { s0 with heap := h2, toks := tk } ma tp m.lastindex (i + pre.length) d _ _ (fun b o hb e => hk2 b o (hkeep b o hb e)) hma htp hcd fun h3 tk3 t3 hk3 => ?_
      rw [if_pos (show (Value.str (S [92, d]) t3 != Value.none) = true from rfl)]
      have hS3 := hk3 _ _ (hk2 _ _ hS)
      refine wpAny_bind (wpAny_updateSeq hS3 rfl ?_ (by simp only [sizeLine]; omega) (by rw [Array.size_push]; simp only [sizeLine]; omega))
      have hS4 := Heap.get?_update_self (Obj.mapSeq (·.push (Value.str (S [92, d]) t3))) hS3 rfl
      refine wpAny_pure ⟨plainId_quiet plain_sub_loop _, ?_⟩
      refine ih (cs.length - (i + pre.length + 1)) (by omega) (i + pre.length + 1) (n + 1) _ tk3 _ _ (parts ++ [[92, d]]) rfl hle (fun b o hb e => (Heap.SameBut.update ..).extBut b o hb (hk3 _ _ (hk2 _ _ (hkeep b o hb e)))) hS4 (strs_push' ha) ?_ (by rw [Array.size_push]; omega)
      rw [flat_snoc, hfl, htk, enc_app, enc_app, enc_plain hpre, List.append_assoc]
      congr 2
      show _ = encC d ++ []
      rw [enc_mark hd2, List.append_nil]
    have hb : (i + pre.length + 1 == i + pre.length) = false := by simp
    rw [hm1, hm2, hb]
    by_cases hpn : pre.length = 0
    · rw [if_neg (by omega), if_neg (show ¬ ((1 : Int) == 0) = true by decide)]
      have e0 : pre = [] := List.length_eq_zero_iff.mp hpn
      exact go h tk acc c parts hkeep hS ha (by rw [hfl, e0, List.append_nil]) (by omega)
    · rw [if_pos (by omega)]
      refine wpAny_bind ?_
      show wpAny _ _ (mkStr ⟨(S cs).cps.extract i (i + pre.length)⟩) _ _ _
      rw [slice_of hd]
      refine wpAny_mkStr ?_ (by rw [S_len]; simp only [sizeLine]; omega)
      refine wpAny_bind (wpAny_updateSeq hS rfl ?_ (by simp only [sizeLine]; omega) (by rw [Array.size_push]; simp only [sizeLine]; omega))
      have hS2 := Heap.get?_update_self (Obj.mapSeq (·.push (Value.str (S pre) tk))) hS rfl
      rw [if_neg (show ¬ ((1 : Int) == 0) = true by decide)]
      exact go _ _ _ _ (parts ++ [pre]) (fun b o hb e => (Heap.SameBut.update ..).extBut b o hb (hkeep b o hb e)) hS2 (strs_push' ha) (by rw [flat_snoc, hfl]) (by rw [Array.size_push]; omega)
end
end Mine
end

section
open PySem PySem.W PySem.Calls PyProof.Rows PySem.Builtin.Re
set_option Elab.async false
set_option maxRecDepth 100000
namespace Mine
theorem fn_call_look : ∃ r, typeLookup (.type "function") (PySem.Str.ofString "__call__") = pure (some r) := ⟨.builtin "function.__call__", by rw [typeLookup_type, builtinLookup_eq_fast]; kernel_rfl⟩
theorem str_not_ba : isSubtype (.type "str") (.type "bytearray") = pure false := by rw [isSubtype_type]; kernel_rfl
section
variable {prog : Program} {w : World} {A : Around} {s : Shared} {f : Addr} {cs : List Nat} {t : Tok} {Q E : Value → Shared → Prop}
theorem named3 {M : Model} {A : Around} {E : Value → Shared → Prop} {s : Shared} {a b : Value} {Q : List (Option Value) → Shared → Prop} (h : Q [some a, some b, none] s) : wpAny M A (reNamed "re.Pattern.sub" "sub" ["repl", "string", "count"] 2 [a, b] []) Q E s := by
  refine wpAny_of_eq (a := [some a, some b, none]) ?_ h
  rfl
theorem sub_call (hp : PatAt s.heap) (hf : s.TypeIs (.ref f) "function") (hl : cs.length ≤ 1000) (hsz : 43 < s.heap.objs.size)
   (hlam : ∀ h' : Heap, (∀ b o, s.heap.get? b = some o → h'.get? b = some o) → SubLam prog w A.in1 { s with heap := h' } f s.heap.objs.size cs t)
   (hQ : ∀ h' tk t', (∀ b o, s.heap.get? b = some o → h'.get? b = some o) → Q (.str (S (encL cs)) t') { s with heap := h', toks := tk }) :
   wpAny (model prog w) A (call (.builtin "re.Pattern.sub") [.ref 43, .ref f, .str (S cs) t]) Q E s := by
  have hT : s.TypeIs (.ref 43) "re.Pattern" := by
    obtain ⟨⟨o, v0, v1, v3, v4, t2, t6, h1, h2, h3⟩, _⟩ := hp
    exact ⟨o, h1, h2⟩
  refine wpAny_call (codeAny_call_builtin_at (plainId_quiet slot_sub.plain _) entry_sub (slot_sub.check _ _ _ _ _ _ _ _ hT (args_sub _ _ _) ?_))
  rw [Around.under_plainId slot_sub.plain]
  unfold Builtin.«re.Pattern.sub» reSubstitute
  dsimp only
  refine wpAny_bind (named3 ?_)
  dsimp only
  refine wpAny_bind (wpAny_pure ?_)
  obtain ⟨r, hr⟩ := fn_call_look
  refine wpAny_bind (wpAny_specialOf hf hr ?_)
  have hsome : (some r).isSome = true := rfl
  rw [if_pos hsome]
  refine wpAny_bind (wpAny_pure ?_)
  rw [if_pos hsome]
  refine wpAny_bind (wpAny_pure ?_)
  refine wpAny_bind (wpAny_holding (wholeT hp ?_))
  dsimp only
  rw [if_pos (show ((1 : Int) == 1) = true from rfl)]
  refine wpAny_bind ?_
  unfold reNotHeld
  refine wpAny_bind (wpAny_isInstance (typeIs_str _ _ _) str_not_ba ?_)
  rw [if_neg Bool.false_ne_true]
  refine wpAny_pure ?_
  refine wpAny_bind (wpAny_newList ?_)
  refine wpAny_pure ⟨plainId_quiet plain_sub_loop _, ?_⟩
  have hk : ∀ b o, s.heap.get? b = some o → (s.heap.push (seqObj "list" [].toArray 0)).get? b = some o := fun b o e => Heap.get?_push_of_some _ e
  have hP : (s.heap.push (seqObj "list" [].toArray 0)).get? s.heap.objs.size = some (lstO #[] 0) := Heap.get?_push_size _ rfl
  refine sub_run (s0 := { s with heap := s.heap.push (seqObj "list" [].toArray 0) }) (P := s.heap.objs.size) (hlam _ hk) (hp.keeps fun b o _ e => hk b o e) (Nat.ne_of_gt hsz) (Nat.ne_of_gt (Nat.lt_trans (by decide) hsz)) hl (fun h' tk t' hk' => ?_) (cs.length - 0) 0 0 _ s.toks #[] 0 [] rfl (Nat.zero_le _) (fun b o _ e => e) hP .nil rfl (Nat.zero_le _)
  exact hQ h' tk t' fun b o e => hk' b o (Nat.ne_of_lt (Heap.lt_size e)) (hk b o e)
end
end Mine
end

section
open PySem PySem.W PySem.Calls PyProof.Rows PySem.Builtin.Re
set_option Elab.async false
set_option maxRecDepth 100000
namespace Mine
theorem plain_match : PlainAttrs "re.Match" := ⟨⟨"object.__getattribute__", by rw [typeLookup_type, builtinLookup_eq_fast]; kernel_rfl, by decide +kernel⟩, by rw [typeLookup_type, builtinLookup_eq_fast]; kernel_rfl⟩
theorem plain_pattern : PlainAttrs "re.Pattern" := ⟨⟨"object.__getattribute__", by rw [typeLookup_type, builtinLookup_eq_fast]; kernel_rfl, by decide +kernel⟩, by rw [typeLookup_type, builtinLookup_eq_fast]; kernel_rfl⟩
theorem type_group : typeOf (.builtin "re.Match.group") = pure (.type "method_descriptor") := by show builtinType _ = _; rw [builtinType_eq_fast]; kernel_rfl
theorem type_sub : typeOf (.builtin "re.Pattern.sub") = pure (.type "method_descriptor") := by show builtinType _ = _; rw [builtinType_eq_fast]; kernel_rfl
section
variable {prog : Program} {w : World} {A : Around} {s : Shared} {cs : List Nat} {t : Tok} {E : Value → Shared → Prop}
theorem one_of {j c : Nat} (h : cs[j]? = some c) : (⟨(S cs).cps.extract j (j + 1)⟩ : PySem.Str) = S [c] := by
  simp only [S, List.extract_toArray, List.extract_eq_take_drop]
  rw [show j + 1 - j = 1 by omega]
  obtain ⟨hj, rfl⟩ := List.getElem?_eq_some_iff.mp h
  rw [List.drop_eq_getElem_cons hj]
  rfl
theorem group_call {ma tp : Addr} {li : Int} {j c : Nat} {Q : Value → Shared → Prop} (hma : s.heap.get? ma = some (matchO cs t li tp)) (htp : s.heap.get? tp = some (spanO j)) (hc : cs[j]? = some c)
   (hQ : ∀ tk t', Q (.str (S [c]) t') { s with toks := tk }) : wpAny (model prog w) A (call (.builtin "re.Match.group") [.ref ma]) Q E s := by
  refine wpAny_call_entry slot_group ⟨_, hma, rfl⟩ entry_group ?_ (args_group _)
  unfold Builtin.«re.Match.group»
  dsimp only
  refine wpAny_bind (m := noKeywords "Match.group" _) (wpAny_pure ?_)
  refine wpAny_bind ?_
  unfold reFound
  refine wpAny_bind (wpAny_fieldsOf hma rfl ?_)
  refine wpAny_bind ?_
  unfold reRawItems
  refine wpAny_bind (wpAny_seqItems htp rfl (wpAny_pure ?_))
  refine wpAny_pure ?_
  show wpAny _ _ (reGroupText _ 0 Value.none >>= fun v => ret v) _ _ _
  refine wpAny_bind ?_
  have e : reGroupText ⟨#[Value.str (S cs) t, Value.ref 43, Value.int 0 0, Value.int cs.length 0, Value.int li 0, Value.ref tp], #[(j : Int), ((j + 1 : Nat) : Int)]⟩ 0 Value.none = (do let p ← reTextOf (.str (S cs) t); reSlice p.1 p.2 j (j + 1)) := by
    unfold reGroupText
    have h0 : (#[(j : Int), ((j + 1 : Nat) : Int)] : Array Int).getD (2 * 0) (-1) = j := rfl
    have h1 : (#[(j : Int), ((j + 1 : Nat) : Int)] : Array Int).getD (2 * 0 + 1) (-1) = ((j + 1 : Nat) : Int) := rfl
    simp only [h0, h1, Int.toNat_natCast]
    rw [if_neg (by simp; omega)]
    rfl
  rw [show Array.map reRawOf ((some #[Value.int (j : Int) 0, Value.int ((j + 1 : Nat) : Int) 0] : Option (Array Value)).getD #[]) = #[(j : Int), ((j + 1 : Nat) : Int)] from by simp [reRawOf]]
  rw [e]
  refine wpAny_bind ?_
  unfold reTextOf
  show wpAny _ _ (pure ((S cs).cps, 0)) _ _ _
  refine wpAny_pure ?_
  show wpAny _ _ (mkStr ⟨(S cs).cps.extract j (j + 1)⟩) _ _ _
  rw [one_of hc]
  refine wpAny_mkStr ?_ (by rw [S_len]; simp [sizeLine])
  exact wpAny_pure ⟨_, rfl, hQ _ _⟩
abbrev lamBody (a1 a2 a3 a4 a5 : Pos) : Expr := .BinOp (.Constant (.str (PySem.Str.ofString "\\")) 0 a1) .Add (.Call (.Attribute (.Name (PySem.Str.ofString "m") a2) (PySem.Str.ofString "group") a3) [] [] a4) a5
/-- the lambda of make_charset -/
theorem lamL_spec {f c' : Addr} {name qual : PySem.Str} {params : Arguments} {scope : Scope} {cl : List (PySem.Str × Addr)} {pm ctv : Value} {a1 a2 a3 a4 a5 : Pos} {ma tp : Addr} {li : Int} {j c : Nat} {Q : Value → Shared → Prop}
   (ho : s.heap.get? f = some (kla_obj name qual params (lamBody a1 a2 a3 a4 a5) scope cl pm c' ctv)) (hcd : s.heap.CodeRec (.ref c') qual) (hlim : s.heap.NoLimit) (hroom : A.depth < recursionLimit) (hline : (a3.endLine == a4.line) = true)
   (hbind : bindArgs (kla_fn name qual params (lamBody a1 a2 a3 a4 a5) scope cl pm (.ref c') ctv) ⟨[.ref ma], []⟩ = pure [(PySem.Str.ofString "m", .ref ma)]) (hsc : scope.names.lookup (PySem.Str.ofString "m") = some .local)
   (hco : scope.isCoroutine = false) (hgen : scope.isGenerator = false) (hk : scope.kind = .function) (hcell : ∀ x ∈ scope.names, x.2 ≠ .cell)
   (hma : s.heap.get? ma = some (matchO cs t li tp)) (htp : s.heap.get? tp = some (spanO j)) (hc : cs[j]? = some c)
   (hQ : ∀ h' tk t', (∀ b o, s.heap.get? b = some o → h'.get? b = some o) → Q (.str (S [92, c]) t') { s with heap := h', toks := tk }) :
   wpAny (model prog w) A (call (.ref f) [.ref ma]) Q E s := by
  refine wpAny_call (kla_callFunE hroom ho rfl hco hgen rfl hcd ?_)
  rw [hbind]
  refine wpAny_pure (wpAny_newFunctionEnv hcell (fun y hy => by rw [List.mem_singleton] at hy; subst hy; exact hsc) (fun h₁ hns hsb => ⟨hlim.fresh _ hsb, ?_⟩) hk)
  have hk₁ : ∀ b o, s.heap.get? b = some o → h₁.get? b = some o := fun b o e => hsb.extBut b o (Nat.ne_of_lt (Heap.lt_size e)) (Heap.get?_push_of_some _ e)
  refine kla_codeExpr (env := newEnv scope s.heap.objs.size _ cl _ (some f) (.ref c') none _) ?_
  refine wpAny_BinOp (wpAny_Constant_str ?_)
  refine wpAny_Call_method (T := "re.Match") (id := "re.Match.group") rfl rfl hline plain_match slot_group type_group ?_
  refine wpAny_Name (wpAny_loadName_local hk hsc hns (v := .ref ma) rfl ?_)
  have hma1 := hk₁ _ _ hma
  have htp1 := hk₁ _ _ htp
  refine ⟨⟨_, hma1, rfl⟩, fun a e => by cases e; exact ⟨_, hma1, rfl⟩, ?_⟩
  refine callWith_builtin rfl (PyProof.Rows.evalArgs_none ?_)
  refine group_call (j := j) hma1 htp1 hc fun tk t' => ?_
  refine PyProof.Rows.add_str (fun t2 tk2 => ?_) (by rw [S_len]; exact Nat.le_of_ble_eq_true rfl)
  exact hQ _ _ _ hk₁
end
end Mine
end

section
open PySem PySem.W PyProof.Rows
set_option Elab.async false
namespace Mine
section
variable {prog : Program} {w : World} {A : Around} {h₀ : Heap} {L : Addr} {m : PySem.Str → Option Value} {env : Env} {elt : Expr} {x : PySem.Str} {scope : Scope} {cl : List (PySem.Str × Addr)} {s : Shared} {Sx : List (Addr × Obj) → Prop} {P : Nat → Value → Prop} {Fin : List Value → List (Addr × Obj) → Prop} {news : List (Addr × Obj)}
def StrEl (news : List (Addr × Obj)) (r : List Nat) (y : Value) (news' : List (Addr × Obj)) : Prop := news' = news ∧ ∃ t : Tok, y = .str (S r) t
theorem StrEl.of {news : List (Addr × Obj)} {z : List Nat} {r : PySem.Str} {t : Tok} (e : r = S z) : StrEl news z (.str r t) news := ⟨rfl, t, e ▸ rfl⟩
theorem str_rest {n : Nat} {ws : List (List Nat)} (f : List Nat → List Nat) (hws : ws.length = n) (hP : ∀ i v, i < n → P i v → ∃ z t, ws[i]? = some z ∧ v = .str (S z) t)
    (turn : ∀ z t I oI C oC D m₂ ys h tk (E' : Value → Shared → Prop), z ∈ ws → LCg.NsObj oC m₂ → m₂ x = some (.str (S z) t) → Fr h₀ L h m → News h₀ L h ((I, oI) :: (C, oC) :: (D, LCg.lst ys) :: news) → LCg.Off3 I C D news → ((@Ne Nat I C) ∧ (@Ne Nat I D) ∧ (@Ne Nat C D)) →
      wpAny (model prog w) A (eval elt (compEnvC scope cl C env)) (LCg.CompEnd h₀ L m { s with heap := h, toks := tk } I oI C oC D (LCg.lst ys) Sx (StrEl news (f z))) E' { s with heap := h, toks := tk })
    (fin : ∀ ys, StrsAre ys ((ws.map f).map S) → Fin ys news) : LCg.CompRest prog w A h₀ L m env elt x scope cl s Sx P Fin n 0 [] news := by
  have key : ∀ (j i : Nat) (ys : List Value), i + j = n → StrsAre ys (((ws.take i).map f).map S) → LCg.CompRest prog w A h₀ L m env elt x scope cl s Sx P Fin j i ys news := by
    intro j
    induction j with
    | zero =>
      intro i ys hi hy
      have e : i = ws.length := by omega
      subst e
      rw [List.take_length] at hy
      exact LCg.CompRest.zero (fin ys hy)
    | succ j ih =>
      intro i ys hi hy
      refine LCg.CompRest.succ ?_
      intro v I oI C oC D m₂ h tk E' hv hC hx F N off ne
      obtain ⟨z, t, hk, hv'⟩ := hP i v (by omega) hv
      rw [hv'] at hx
      refine wpAny_mono (turn z t I oI C oC D m₂ ys h tk E' (List.mem_of_getElem? hk) hC hx F N off ne) (fun y s₂ hq => ?_) fun _ _ e => e
      obtain ⟨h', tk', nw, e, F', N', off', hS, hn, t', hy'⟩ := hq
      rw [hn] at N' off' hS
      refine ⟨h', tk', news, e, F', N', off', hS, ?_⟩
      rw [hy']
      refine ih (i + 1) _ (by omega) ?_
      rw [List.take_add_one, hk, Option.toList_some, List.map_append, List.map_append]
      exact hy.append' (.cons _ _ .nil)
  exact key n 0 [] (by omega) .nil
theorem str_src {Fin : Shared → List Value → List (Addr × Obj) → Prop} {ax : Addr} {vs : List Value} {k : Nat} {s₁ : Shared} {ws : List (List Nat)} (f : List Nat → List Nat) (hh : A.handled = none) (F : Fr h₀ L s₁.heap m) (N : News h₀ L s₁.heap news) (hm : (ax, listOf vs.toArray k) ∈ news) (hS : StrsAre vs (ws.map S)) (hsz : ws.length ≤ 1000)
    (turn : ∀ z t I oI C oC D m₂ ys h tk (E' : Value → Shared → Prop), z ∈ ws → LCg.NsObj oC m₂ → m₂ x = some (.str (S z) t) → Fr h₀ L h m → News h₀ L h ((I, oI) :: (C, oC) :: (D, LCg.lst ys) :: news) → LCg.Off3 I C D news → ((@Ne Nat I C) ∧ (@Ne Nat I D) ∧ (@Ne Nat C D)) →
      wpAny (model prog w) A (eval elt (compEnvC scope cl C env)) (LCg.CompEnd h₀ L m { s₁ with heap := h, toks := tk } I oI C oC D (LCg.lst ys) (LCg.SrcAt h₀ ax vs.toArray) (StrEl news (f z))) E' { s₁ with heap := h, toks := tk })
    (fin : ∀ g ys, StrsAre ys ((ws.map f).map S) → Fin { s₁ with heap := g } ys news) :
    LCg.CompSrc prog w A h₀ L m env elt x scope cl Fin (.ref ax) s₁ := by
  have hl := StrsAre.length hS
  rw [List.length_map] at hl
  refine LCg.CompSrc.ledger hh F N hm (by simp [sizeLine]; omega) fun g => ?_
  refine str_rest f (by simp [hl]) (fun i v hi hv => ?_) (fun z t I oI C oC D m₂ ys h tk E' => turn z t I oI C oC D m₂ ys h tk E') (fun ys hy => fin g ys hy)
  have hi' : i < ws.length := by simpa [hl] using hi
  obtain ⟨t, ht⟩ := strs_item hS hi'
  rw [List.getElem?_toArray, ht] at hv
  exact ⟨ws[i], t, List.getElem?_eq_getElem hi', (Option.some.inj hv).symm⟩
end
end Mine
end

section
open PySem PySem.W PyProof.Rows
set_option Elab.async false
namespace Mine
theorem among_app {pos : Pos} {cv : Value} {r : List Value} : ∀ {l : List Value}, codeAmong pos l = some cv → codeAmong pos (l ++ r) = some cv := by
  intro l
  fun_induction codeAmong pos l with
  | case1 line t col u c rest h => intro e; simp only [List.cons_append]; rw [codeAmong, if_pos h]; exact e
  | case2 line t col u c rest h ih => intro e; simp only [List.cons_append]; rw [codeAmong, if_neg h]; exact ih e
  | case3 => intro e; cases e
theorem among_other {pos p' : Pos} {c : Value} (hne : ¬ (p'.line = pos.line ∧ p'.col = pos.col)) : ∀ {l : List Value}, TriplesOk l → codeAmong pos l = none → codeAmong pos (l ++ [rawInt p'.line, rawInt p'.col, c]) = none := by
  intro l
  fun_induction TriplesOk l with
  | case1 =>
    intro _ _
    simp only [List.nil_append, rawInt, codeAmong]
    rw [if_neg]
    simp only [Bool.and_eq_true, beq_iff_eq]
    intro h
    exact hne ⟨by omega, by omega⟩
  | case2 a t b u cc rest ih =>
    intro ht hn
    simp only [List.cons_append]
    rw [codeAmong] at hn ⊢
    split at hn
    · cases hn
    · rename_i hq
      rw [if_neg hq]
      exact ih ht hn
  | case3 => intro h; exact h.elim

theorem TabQ.grow {led : List (Addr × Obj)} {ps : Array Value} {pos p' : Pos} {qual : PySem.Str} {c : Value} (h : TabQ led ps pos qual) (ht : TriplesOk ps.toList) (hne : ¬ (p'.line = pos.line ∧ p'.col = pos.col)) : TabQ led (ps ++ #[rawInt p'.line, rawInt p'.col, c]) pos qual := by
  rcases h with h | ⟨c', oc, vs, t, h1, r⟩
  · exact .inl (by simpa using among_other (c := c) hne ht h)
  · exact .inr ⟨c', oc, vs, t, by simpa using among_app (r := [rawInt p'.line, rawInt p'.col, c]) h1, r⟩

section
variable {prog : Program} {w : World} {A : Around} {s : Shared} {g : Heap} {L : Addr} {m : PySem.Str → Option Value} {led : List (Addr × Obj)} {p : Program} {loose : List PySem.Str} {mean : ExcName → Option Value} {mg mb : PySem.Str → Option Value}
/-- a generator expression's code, out of the inner def's table -/
theorem genexpr_code_N {env : Env} {pos : Pos} {qual : PySem.Str} {scope : Scope} {Q E : Value → Shared → Prop} {p1 p2 : Array Value} (hc : env.code = .ref 178) (C : CodeHd g 178 176) (F : Fr g L s.heap m) (N : News g L s.heap led) (hT : Tabs led p1 p2) (hL : @LT.lt Nat _ 176 L)
   (hne : ¬ (pos.line = posK.line ∧ pos.col = posK.col))
   (k : ∀ cv h' tk p2' led', Fr g L h' m → News g L h' led' → Tabs led' p1 p2' → (∀ q ∈ led, q.1 ≠ 176 → q ∈ led') → (∀ q ∈ led', ∃ o, (q.1, o) ∈ led) → (∀ b o, b ≠ 176 → s.heap.get? b = some o → h'.get? b = some o) → Q cv { s with heap := h', toks := tk }) :
   wpAny (model prog w) A (genexprCode env pos qual scope) Q E s := by
  have h176 := N.get hT.m176
  have C' := C.keeps F.keep
  have L176 : L ≠ 176 := fun q => by have hL' := hL; rw [q] at hL'; exact absurd hL' (by decide)
  have g176 := N.fresh hT.m176
  cases hf : codeAmong pos p2.toList with
  | some cv => exact wpAny_genexprCode_hit hc (C'.code h176 hT.t2) hf (k cv s.heap s.toks p2 led F N hT (fun _ h _ => h) (fun q h => ⟨q.2, h⟩) fun _ _ _ e => e)
  | none =>
    refine wpAny_genexprCodeX hc (C'.code h176 hT.t2) (C'.tab h176) hf fun c' h' tk hx h1 h2 hic hrec htb _ => ?_
    refine k (.ref c') h' tk (p2 ++ #[rawInt pos.line, rawInt pos.col, .ref c']) ((176, tabObj (p2 ++ #[rawInt pos.line, rawInt pos.col, .ref c'])) :: led.filter fun q => decide (q.1 ≠ 176))
      ⟨F.ns.at fun o e => hx L o L176 e, fun b o e => hx b o (fun q => by rw [q, g176] at e; cases e) (F.keep b o e), F.above⟩ (fun q hq => ?_) ⟨?_, .head _, hT.t1, ?_, ?_, ?_⟩ (fun q hq h1 => .tail _ (List.mem_filter.mpr ⟨hq, decide_eq_true h1⟩)) (fun q hq => by
      rcases List.mem_cons.mp hq with rfl | hq
      · exact ⟨_, hT.m176⟩
      · exact ⟨q.2, (List.mem_filter.mp hq).1⟩) fun b o hb e => hx b o hb e
    · rcases List.mem_cons.mp hq with rfl | hq
      · exact ⟨htb.2, (N _ hT.m176).2⟩
      · obtain ⟨h1, h2⟩ := List.mem_filter.mp hq
        exact ⟨hx _ _ (of_decide_eq_true h2) (N _ h1).1, (N _ h1).2⟩
    · exact .tail _ (List.mem_filter.mpr ⟨hT.m52, decide_eq_true (by show (52 : Nat) ≠ 176; decide)⟩)
    · simpa using TriplesOk_snoc _ _ _ _ hT.t2
    · exact hT.q1.sub fun q hq _ h1 => .tail _ (List.mem_filter.mpr ⟨hq, decide_eq_true h1⟩)
    · exact (hT.q2.grow hT.t2 hne).sub fun q hq _ h1 => .tail _ (List.mem_filter.mpr ⟨hq, decide_eq_true h1⟩)
theorem builtins_N {env : Env} {run : Addr} {Q : Addr → Shared → Prop} {E : Value → Shared → Prop} (hg : env.globals = mainGlobals) (T : Top p loose mean mg mb g) (F : Fr g L s.heap m) (k : Q builtinsNs s) : wpAny (model prog w) A (builtinsFor env.globals run) Q E s := by
  obtain ⟨bm, ob, b1, b2, b3, b4, b5, b6⟩ := T.bmain
  rw [hg]
  exact wpAny_builtinsFor (T.g.keeps F.keep) b1 b2 (F.keep _ _ b3) b4 b5 b6 k
end
end Mine
end

section
open PySem PySem.W PyProof.Rows
set_option Elab.async false
namespace Mine
section
variable {prog : Program} {w : World} {A : Around} {s : Shared} {g : Heap} {L : Addr} {m : PySem.Str → Option Value} {led : List (Addr × Obj)}
theorem items_strs {P : Nat → Value → Prop} {acc : Array Value} {ws : List (List Nat)} (h : ItemsOf P acc ws.length) (hP : ∀ j y, P j y → ∃ z t, ws[j]? = some z ∧ y = Value.str (S z) t) : StrsAre acc.toList (ws.map S) := by
  have key : ∀ (ws : List (List Nat)) (vs : List Value), vs.length = ws.length → (∀ (j : Nat) (v : Value), vs[j]? = some v → ∃ (z : List Nat) (t : Tok), ws[j]? = some z ∧ v = Value.str (S z) t) → StrsAre vs (ws.map S) := by
    intro ws
    induction ws with
    | nil => intro vs h _; cases vs with | nil => exact .nil | cons _ _ => simp at h
    | cons z r ih =>
      intro vs h hv
      cases vs with
      | nil => simp at h
      | cons v vs =>
        obtain ⟨z', t, e1, rfl⟩ := hv 0 v rfl
        have e1 : z = z' := by simpa using e1
        subst e1
        exact .cons _ _ (ih vs (by simpa using h) fun j v hj => by simpa using hv (j + 1) v (by simpa using hj))
  exact key ws acc.toList (by simpa using h.1) fun j v hj => hP j v (h.2 j v (by simpa using hj))

/-- sorted, over a generator of strs -/
theorem sorted_gen {Q : Value → Shared → Prop} {E : Value → Shared → Prop} {a : Addr} {fp wr : List Addr} {gi : Nat} {P : Nat → Value → Prop} {St : Nat → Shared → Prop} {ws : List (List Nat)}
    (W : WalksS prog w A.in4 a fp wr (GenOnlyQ gi) ws.length P St) (hT : ∀ i s, St i s → s.TypeIs (.ref a) "generator") (hst : St 0 s) (hfp : ∀ b ∈ fp, b < s.heap.objs.size) (ha : a ∈ fp) (h64 : ws.length < 64)
    (hP : ∀ j y, P j y → ∃ z t, ws[j]? = some z ∧ y = .str (S z) t) (F : Fr g L s.heap m) (N : News g L s.heap led) (hwL : L ∉ wr) (hwg : ∀ b ∈ wr, g.get? b = none) (hwN : ∀ q ∈ led, q.1 ∉ wr)
    (k : ∀ D vs' ss' n h' gens' tk, Fr g L h' m → News g L h' ((D, listOf (List.toArray vs') n) :: led) → (∀ q ∈ led, q.1 < D) → StrsAre vs' ss' → ss'.Perm (ws.map S) → sortedS ss' = true → gens'.size = s.gens.size → (∀ i, i ≠ gi → gens'[i]? = s.gens[i]?) → ((∀ y, s.gens[gi]? = some y → y.bare = true) → ∀ y, gens'[gi]? = some y → y.bare = true) → Q (.ref D) { s with heap := h', gens := gens', toks := tk }) :
    wpAny (model prog w) A (call (.builtin "sorted") [.ref a]) Q E s := by
  refine Calls.call_function_entry kind_sorted plain_sorted entry_sorted (args_sorted1 _) ?_
  unfold Builtin.«sorted»
  refine wpAny_bind (m := checkCount "sorted" 1 1 _) (wpAny_pure ?_)
  refine wpAny_bind (wpAny_collect_gen (W := by first | exact W.in4_2 | exact W.in4_1) hT hst hfp ha (fun s' acc hM hI => ?_) (by simp [sizeLine]; omega))
  obtain ⟨h₁, gens₁, d₁, tk₁, os₁⟩ := s'
  have e1 : d₁ = s.drawn := hM.drawn
  have e2 : os₁ = s.os := hM.os
  subst e1 e2
  have hk : ∀ b o, b ∉ wr → s.heap.get? b = some o → h₁.get? b = some o := hM.heap
  have hS := items_strs hI hP
  have hlen : acc.toList.length < 64 := by have := hI.1; simp; omega
  have F₁ : Fr g L h₁ m := ⟨F.ns.at fun o e => hk _ _ hwL e, fun b o e => hk b o (fun q => by rw [hwg b q] at e; cases e) (F.keep b o e), F.above⟩
  have N₁ : News g L h₁ led := fun q hq => ⟨hk _ _ (hwN q hq) (N q hq).1, (N q hq).2⟩
  have hgens : gens₁.size = s.gens.size ∧ (∀ i, i ≠ gi → gens₁[i]? = s.gens[i]?) ∧ ((∀ y, s.gens[gi]? = some y → y.bare = true) → ∀ y, gens₁[gi]? = some y → y.bare = true) := by
    rcases hM.gens with h | ⟨⟨h1, h2⟩, h3⟩
    · have h : gens₁ = s.gens := h
      rw [h]; exact ⟨rfl, fun _ _ => rfl, fun h => h⟩
    · exact ⟨h1, h2, fun _ => h3⟩
  refine wpAny_bind (wpAny_newList ?_)
  have hoL : (h₁.push (seqObj "list" acc.toList.toArray 0)).get? h₁.objs.size = some (seqObj "list" acc.toList.toArray 0) := Heap.get?_push_size _ rfl
  refine wpAny_bind (wpAny_holding (wpAny_call_entry slot_list_sort ⟨_, hoL, rfl⟩ entry_list_sort (list_sort_treeK strKind_oneLt hoL hS.keysOf (fun v₁ v₂ rest e => keyKind_strs (by rw [← e]; exact hS)) hlen fun st' a1 a2 => ⟨_, rfl, ?_⟩) (args_list_sort _)))
  obtain ⟨ss', h1, h2, h3⟩ := sorted_out_str hS a1 a2
  obtain ⟨e, he⟩ := sortedHeap_at (out := (arrOf st').map (·.2)) hoL
  have old : ∀ b o, h₁.get? b = some o → (sortedHeap (h₁.push (seqObj "list" acc.toList.toArray 0)) h₁.objs.size acc.toList ((arrOf st').map (·.2))).get? b = some o := fun b o hb => by
    rw [sortedHeap_old (Nat.ne_of_lt (Heap.lt_size hb)) (by rw [size_push']; exact Nat.lt_succ_of_lt (Heap.lt_size hb)), Heap.get?_push_ne _ _ _ (Nat.ne_of_lt (Heap.lt_size hb))]
    exact hb
  refine wpAny_pure ⟨_, rfl, ?_⟩
  refine k h₁.objs.size ((arrOf st').map (·.2)).toList ss' e _ gens₁ tk₁ (F₁.kept old) (by rw [Array.toArray_toList]; exact N₁.kept_cons F₁ old (Nat.le_refl _) he) (fun q hq => Heap.lt_size (N₁ q hq).1) h1 h2 h3 hgens.1 hgens.2.1 hgens.2.2
end

section
variable {prog : Program} {w : World} {A : Around} {s : Shared} {g : Heap} {L : Addr} {m : PySem.Str → Option Value} {led : List (Addr × Obj)} {p : Program} {loose : List PySem.Str} {mean : ExcName → Option Value} {mg mb : PySem.Str → Option Value}
theorem passing_all (n : Nat) : (passing (fun _ => true) n 0) = List.range n := by unfold passing; simp
/-- a generator expression over a list of strs, whose element is quiet -/
theorem gen_strs {env : Env} {elt iter : Expr} {x : PySem.Str} {px : Pos} {scope : Scope} {cl : List (PySem.Str × Addr)} {pos : Pos} {Q E : Value → Shared → Prop} {l : Addr} {vs : List Value} {nl : Nat} {ws : List (List Nat)} {p1 p2 : Array Value} (f : List Nat → List Nat)
    (hh : A.handled = none) (hroom : A.depth < recursionLimit) (hc : env.code = .ref 178) (hgl : env.globals = mainGlobals) (C : CodeHd g 178 176) (T : Top p loose mean mg mb g) (F : Fr g L s.heap m) (N : News g L s.heap led) (hT : Tabs led p1 p2) (hL : @LT.lt Nat _ 176 L) (hne : ¬ (pos.line = posK.line ∧ pos.col = posK.col))
    (hl : (l, listOf vs.toArray nl) ∈ led) (hl176 : l ≠ 176) (hS : StrsAre vs (ws.map S)) (hsz : ws.length ≤ 1000)
    (hit : wpAny (model prog w) A (eval iter env) (fun xv s₁ => xv = .ref l ∧ ∃ tk, s₁ = { s with toks := tk }) E s)
    (helt : ∀ (A' : Around) E' z t (s₂ : Shared) C cv m₂, A'.handled = none → z ∈ ws → @LT.lt Nat _ L C → s₂.heap.Ns C m₂ → m₂ x = some (.str (S z) t) → (∀ q ∈ led, q.1 ≠ 176 → s₂.heap.get? q.1 = some q.2) → (∀ b o, g.get? b = some o → s₂.heap.get? b = some o) →
      wpAny (model prog w) A' (eval elt (genEnv scope cl C cv builtinsNs env)) (fun y s₃ => (∃ t, y = .str (S (f z)) t) ∧ Keeps s₂ s₃) E' s₂)
    (k : ∀ a h5 tk gs p2' led' fp wr P St, gs.bare = true → Fr g L h5 m → News g L h5 led' → Tabs led' p1 p2' → (∀ q ∈ led, q.1 ≠ 176 → q ∈ led') →
      WalksS prog w A.in4 a fp wr (GenOnlyQ s.gens.size) (ws.map f).length P St → (∀ j y, P j y → ∃ z t, (ws.map f)[j]? = some z ∧ y = .str (S z) t) → St 0 { s with gens := s.gens.push gs, toks := tk, heap := h5 } → (∀ i s, St i s → s.TypeIs (.ref a) "generator") → a ∈ fp → (∀ b ∈ fp, b < h5.objs.size) → L ∉ wr → (∀ b ∈ wr, g.get? b = none) → (∀ q ∈ led', q.1 ∉ wr) →
      Q (.ref a) { s with gens := s.gens.push gs, toks := tk, heap := h5 })
    (hco : scope.isCoroutine = false := by rfl) (hclos : closureFor scope env = pure cl := by rfl) (hcell : ∀ y ∈ scope.names, y.2 ≠ .cell := by decide) (h0 : scope.names.lookup (".0" : PySem.Str) = some NameKind.local := by rfl)
    (hx : scope.names.lookup x = some .local := by rfl) (hkind : scope.kind = .function := by rfl) (hs : ∀ x, genFold iter env x = pure x := by intro _; rfl) :
    wpAny (model prog w) A (eval (.GeneratorExp elt [⟨.Name x px, iter, [], 0⟩] scope pos) env) Q E s := by
  refine wpAny_GeneratorExp_walksQ hh hco hclos hcell h0 hx hkind hroom (wpAny_mono hit (fun xv s₁ h₁ => ?_) fun _ _ e => e) hs
  obtain ⟨rfl, tk₁, rfl⟩ := h₁
  have hll := Heap.lt_size (N _ hl).1
  have hlen := StrsAre.length hS
  rw [List.length_map] at hlen
  refine wpAny_pyIter_list (PySem.IsL.isList (n := nl) (N.get hl)) ?_
  dsimp only
  have F1 := F.push { cls := .type "list_iterator", data := .fields #[.ref l, .int 0 0] }
  have N1 := News.push F N { cls := .type "list_iterator", data := .fields #[.ref l, .int 0 0] }
  have Nl : News g L (s.heap.push { cls := .type "list_iterator", data := .fields #[.ref l, .int 0 0] }) led := fun q hq => N1 q (.tail _ hq)
  refine ⟨(T.nolimit.keeps F.keep).push _, ?_⟩
  refine genexpr_code_N hc C F1 Nl hT hL hne fun cv h2 tk2 p2' led2 F2 N2 T2 hsub hadr hk2 => ?_
  refine builtins_N hgl T F2 ?_
  dsimp only
  have hI2 : h2.IsListIter s.heap.objs.size l 0 := ⟨_, hk2 _ _ (fun q => by have h1 := Heap.lt_size (N.get hT.m176); rw [q] at h1; exact absurd h1 (Nat.lt_irrefl _)) (Heap.get?_push_size _ rfl), rfl, rfl⟩
  have hl2 : h2.IsList l vs.toArray := PySem.IsL.isList (n := nl) (hk2 _ _ hl176 (Heap.get?_push_of_some _ (N.get hl)))
  have hIlt : s.heap.objs.size < h2.objs.size := let ⟨_, e, _⟩ := hI2; Heap.lt_size e
  have hlne : l ≠ s.heap.objs.size := Nat.ne_of_lt hll
  refine ⟨s.heap.objs.size, [s.heap.objs.size, l], [s.heap.objs.size], vs.toArray.size, fun i v => vs.toArray[i]? = some v, fun i h => h.IsListIter s.heap.objs.size l i ∧ h.IsList l vs.toArray, fun _ => true, fun i y => ∃ z t, ws[i]? = some z ∧ y = .str (S (f z)) t, rfl,
    fun A' hA => Walks.list hA _ _ hlne vs.toArray, ⟨hI2, hl2⟩, ?_, T.nolimit.keeps F2.keep, ?_, ?_, ?_⟩
  · intro b hb
    rcases List.mem_cons.mp hb with rfl | hb
    · exact hIlt
    · rw [List.mem_singleton.mp hb]; exact Nat.lt_trans hll hIlt
  · intro q
    have hq := List.mem_singleton.mp q
    have : cStatics < s.heap.objs.size := let ⟨_, hn, _⟩ := T.nolimit.keeps F.keep; hn.lt
    rw [hq] at this
    exact Nat.lt_irrefl _ this
  · intro href hr
    refine ⟨fun A' E' i v s₂ m₂ hA hv hn hm hkp => wpAny_tests_nil ⟨rfl, _, _, rfl, fun _ _ e => e⟩, fun A' E' i v s₂ m₂ hA hv _ hn hm hkp => ?_⟩
    have hi : i < ws.length := by
      have := (Array.getElem?_eq_some_iff.mp hv).1
      rw [List.size_toArray] at this; omega
    obtain ⟨t, ht⟩ := strs_item hS hi
    rw [List.getElem?_toArray, ht] at hv
    obtain rfl := Option.some.inj hv
    have up : ∀ b o, b ≠ s.heap.objs.size → h2.get? b = some o → s₂.heap.get? b = some o := fun b o hb e =>
      hkp b (List.mem_range.mpr (Heap.lt_size e)) (by simpa using hb) o (hr b o e)
    refine wpAny_mono (helt A' E' ws[i] t s₂ _ cv m₂ hA (List.getElem_mem hi) F2.ns.lt hn hm (fun q hq h1 => up _ _ (Nat.ne_of_lt (Heap.lt_size (N q hq).1)) (hk2 _ _ h1 (Heap.get?_push_of_some _ (N q hq).1)))
      fun b o e => up b o (Nat.ne_of_lt (Heap.lt_size (F.keep b o e))) (F2.keep b o e)) (fun y s₃ h => ⟨?_, h.2⟩) fun _ _ e => e
    obtain ⟨t', rfl⟩ := h.1
    exact ⟨ws[i], t', List.getElem?_eq_getElem hi, rfl⟩
  · intro a h₅ tk gs hbare hlt hsz5 hk5 W hG
    have hpl : (passing (fun _ => true) vs.toArray.size 0).length = (ws.map f).length := by rw [passing_all, List.length_range, List.size_toArray, List.length_map, hlen]
    rw [hpl] at W
    have hCn : ∀ b, h2.objs.size ≤ b → g.get? b = none := fun b hb => Heap.get?_none_of_le (Nat.le_trans F.above (Nat.le_trans (Nat.le_of_lt F2.ns.lt) hb))
    have hIn : g.get? s.heap.objs.size = none := Heap.get?_none_of_le (Nat.le_trans F.above (Nat.le_of_lt F.ns.lt))
    refine k a h₅ tk gs p2' led2 _ _ _ _ hbare (F2.keeps hk5) (news_keeps N2 hk5) T2 hsub W (fun j y hy => ?_) hG (fun i s st => st.1.typeIs) (List.mem_cons_self ..) ?_ ?_ ?_ ?_
    · obtain ⟨i, hi, z, t, hz, rfl⟩ := hy
      rw [passing_all] at hi
      obtain ⟨h1, h2⟩ := List.getElem?_eq_some_iff.mp hi
      rw [List.getElem_range] at h2
      subst h2
      exact ⟨f z, t, by rw [List.getElem?_map, hz]; rfl, rfl⟩
    · intro b hb
      rw [hsz5]
      rcases List.mem_cons.mp hb with rfl | hb
      · exact Nat.lt_succ_self _
      · rcases List.mem_cons.mp hb with rfl | hb
        · exact Nat.lt_succ_of_lt hlt
        · exact Nat.lt_trans (List.mem_range.mp hb) (Nat.lt_succ_of_lt hlt)
    · intro hq
      have hLlt := F.ns.lt
      rcases List.mem_cons.mp hq with rfl | hq
      · exact Nat.lt_irrefl _ (Nat.lt_trans hLlt hIlt)
      · have := List.mem_singleton.mp hq; rw [← this] at hLlt; exact Nat.lt_irrefl _ hLlt
    · intro b hb
      rcases List.mem_cons.mp hb with rfl | hb
      · exact hCn _ (Nat.le_refl _)
      · rw [List.mem_singleton.mp hb]; exact hIn
    · intro q hq hb
      rcases List.mem_cons.mp hb with hb | hb
      · have := Heap.lt_size (N2 q hq).1; rw [hb] at this; exact Nat.lt_irrefl _ this
      · obtain ⟨o, ho⟩ := hadr q hq
        have := Heap.lt_size (N _ ho).1
        rw [List.mem_singleton.mp hb] at this
        exact Nat.lt_irrefl _ this
end

section
variable {prog : Program} {w : World} {A : Around} {s : Shared}
theorem cut_elt {env : Env} {C c : Addr} {x y : PySem.Str} {px py pu ps pp : Pos} {z : List Nat} {t tk : Tok} {k : Nat} {m₂ : PySem.Str → Option Value} {E : Value → Shared → Prop} (hk : env.scope.kind = .function) (hx : env.kindOf x = some .local) (hy : env.kindOf y = some .free) (hc : env.cells.lookup y = some c) (hC : env.locals = C)
    (hn : s.heap.Ns C m₂) (hm : m₂ x = some (.str (S z) t)) (hv : s.heap.IsCell c (some (.int (k : Int) tk))) (hk0 : 0 < k) (hz : z.length ≤ 1000) (hcl : (y == ("__classdict__" : PySem.Str)) = false) (hdx : (x == ("__debug__" : PySem.Str)) = false) (hdy : (y == ("__debug__" : PySem.Str)) = false) :
    wpAny (model prog w) A (eval (.Subscript (.Name x px) (.Slice none (some (.UnaryOp .USub (.Name y py) pu)) none ps) pp) env) (fun v s' => (∃ t, v = .str (S (z.take (z.length - k))) t) ∧ Keeps s s') E s := by
  subst hC
  refine Subscript_ ?_
  refine wpAny_Name (hd := hdx) (wpAny_loadName_local hk hx hn hm ?_)
  refine wpAny_Slice (evalPart_none_step (evalPart_some_step ?_))
  refine UnaryOp_ (wpAny_Name (hd := hdy) (wpAny_loadName_free hk hy hc hv ?_ hcl))
  refine neg_int (evalPart_none_step ?_)
  refine tail_of_ItemOn (SBH.sliceItem_ns (P := fun h' => ∀ b o, s.heap.get? b = some o → h'.get? b = some o) (s := { s with toks := s.toks + 1 }) (fun h' ob hP b o e => Heap.get?_push_of_some _ (hP b o e)) (fun _ _ e => e) (fun h' t' k' hP => ?_) (by rw [S_len]; simp only [sizeLine]; omega)) (by with_unfolding_all rfl) (by intro _; with_unfolding_all rfl)
  rw [slice_neg (by omega), show (-(-(k : Int))).toNat = k by omega]
  exact ⟨⟨_, rfl⟩, h', k', rfl, hP⟩
end

theorem among_new {pos : Pos} {ps : Array Value} {c : Value} (ht : TriplesOk ps.toList) (hn : codeAmong pos ps.toList = none) : codeAmong pos (ps ++ #[rawInt pos.line, rawInt pos.col, c]).toList = some c := by
  simpa using codeAmong_snoc ps.toList ht hn
section
variable {M : Model} {A : Around} {s : Shared} {g : Heap} {L : Addr} {m : PySem.Str → Option Value} {led : List (Addr × Obj)} {p : Program} {loose : List PySem.Str} {mean : ExcName → Option Value} {mg mb : PySem.Str → Option Value}
/-- the lambda of the inner def -/
theorem lam_N {cn : PySem.Str} {cs : Scope} {a : Addr} {ccd : Value} {cl : List (PySem.Str × Addr)} {name : PySem.Str} {params : Arguments} {body : Expr} {scope : Scope} {clos : List (PySem.Str × Addr)} {fl : Nat} {Q E : Value → Shared → Prop} {p1 p2 : Array Value}
   (C : CodeHd g 178 176) (T : Top p loose mean mg mb g) (F : Fr g L s.heap m) (N : News g L s.heap led) (hT : Tabs led p1 p2) (hcd : ccd = .ref 178) (hcl : closureFor scope (envX cn cs L a ccd cl) = pure clos) (h52 : @LT.lt Nat _ 176 L)
   (k : ∀ f c' oc vs t ctv h' tk p2' led', Fr g L h' m → News g L h' ((f, kla_obj name qualK params body scope clos ((mg (PySem.Str.ofString "__name__")).getD .none) c' ctv) :: led') → (c', oc) ∈ led' → oc.data = .fields vs → vs[1]? = some (.str qualK t) → Tabs led' p1 p2' → TabQ [(c', oc)] p2' posK qualK → (c' ≠ 52 ∧ c' ≠ 176) → (∀ q ∈ led, q.1 ≠ 176 → q ∈ led') → (∀ q ∈ led', q.1 < f) →
      Q (.ref f) { s with heap := h', toks := tk }) :
   wpAny M A (makeFunction name qualK params (.expr body) scope (envX cn cs L a ccd cl) [] [] [] posK fl) Q E s := by
  rcases hT.q2 with hn | ⟨c', oc, vs, t, hf, hm, hc1, hc2, hd, hv⟩
  · have N' : News g L s.heap ((176, tabObj p2) :: led.filter fun q => decide (q.1 ≠ 176)) := fun q hq => by
      rcases List.mem_cons.mp hq with rfl | hq
      · exact N _ hT.m176
      · exact N _ (List.mem_filter.mp hq).1
    refine kla_nest F N' T C hcd (.head fun q hq => of_decide_eq_true (List.mem_filter.mp hq).2) hT.t2 hn hcl fun f c' oc vs t ctv h' tk F2 N2 hd hv hlt hcf => ?_
    have hc : ∀ b : Nat, b ≤ 176 → c' ≠ b := fun b hb q => by
      have h1 := hlt (176, tabObj p2) (.head _)
      subst q
      exact absurd h1 (Nat.not_lt.mpr hb)
    refine k f c' oc vs t ctv h' tk (p2 ++ #[rawInt posK.line, rawInt posK.col, .ref c']) ((c', oc) :: (176, tabObj (p2 ++ #[rawInt posK.line, rawInt posK.col, .ref c'])) :: led.filter fun q => decide (q.1 ≠ 176)) F2 N2 (.head _) hd hv ⟨?_, .tail _ (.head _), hT.t1, ?_, ?_, ?_⟩ (.inr ⟨c', oc, vs, t, among_new hT.t2 hn, .head _, hc 52 (by decide), hc 176 (by decide), hd, hv⟩) ⟨hc 52 (by decide), hc 176 (by decide)⟩ (fun q hq h1 => .tail _ (.tail _ (List.mem_filter.mpr ⟨hq, decide_eq_true h1⟩))) (fun q hq => ?_)
    · exact .tail _ (.tail _ (List.mem_filter.mpr ⟨hT.m52, decide_eq_true (by show (52 : Nat) ≠ 176; decide)⟩))
    · simpa using TriplesOk_snoc _ _ _ _ hT.t2
    · exact hT.q1.sub fun q hq _ h1 => .tail _ (.tail _ (List.mem_filter.mpr ⟨hq, decide_eq_true h1⟩))
    · exact .inr ⟨c', oc, vs, t, among_new hT.t2 hn, .head _, hc 52 (by decide), hc 176 (by decide), hd, hv⟩
    · rcases List.mem_cons.mp hq with rfl | hq
      · exact hcf
      · rcases List.mem_cons.mp hq with rfl | hq
        · exact Nat.lt_trans (hlt (176, tabObj p2) (.head _)) hcf
        · exact Nat.lt_trans (hlt q (.tail _ hq)) hcf
  · refine kla_hit F N T C hcd hT.m176 hT.t2 hf hcl fun f ctv h' tk F2 N2 hlt => ?_
    exact k f c' oc vs t ctv h' tk p2 led F2 N2 hm hd hv hT (.inr ⟨c', oc, vs, t, hf, .head _, hc1, hc2, hd, hv⟩) ⟨hc1, hc2⟩ (fun q hq _ => hq) hlt
end
end Mine
end

section
open PySem PySem.W PyProof.Rows
set_option Elab.async false
namespace Mine
section
variable {M : Model} {A : Around} {s : Shared} {g : Heap} {L : Addr} {m : PySem.Str → Option Value} {led : List (Addr × Obj)} {p : Program} {loose : List PySem.Str} {mean : ExcName → Option Value} {mg mb : PySem.Str → Option Value}
theorem flat_ones : ∀ cs : List Nat, (cs.map fun c => [c]).flatten = cs
  | [] => rfl
  | c :: r => by rw [List.map_cons, List.flatten_cons, flat_ones r]; rfl
/-- the lambda of make_charset, made -/
theorem lam_L {cn : PySem.Str} {cs : Scope} {a : Addr} {ccd : Value} {cl : List (PySem.Str × Addr)} {name : PySem.Str} {params : Arguments} {body : Expr} {scope : Scope} {clos : List (PySem.Str × Addr)} {fl : Nat} {Q E : Value → Shared → Prop} {p1 : Array Value}
   (C : CodeHd g 56 52) (T : Top p loose mean mg mb g) (F : Fr g L s.heap m) (N : News g L s.heap [(52, tabObj p1)]) (ht : TriplesOk p1.toList) (hq : TabQ led p1 posL qualL) (hled : ∀ q ∈ led, q.1 ≠ 52 → g.get? q.1 = some q.2) (h176 : ∃ o, (176, o) ∈ led) (hcd : ccd = .ref 56) (hcl : closureFor scope (envX cn cs L a ccd cl) = pure clos)
   (k : ∀ f c' ctv h' tk p1' new, Fr g L h' m → News g L h' ((f, kla_obj name qualL params body scope clos ((mg (PySem.Str.ofString "__name__")).getD .none) c' ctv) :: (52, tabObj p1') :: new) → h'.CodeRec (.ref c') qualL → TriplesOk p1'.toList → TabQ (new ++ led) p1' posL qualL → (∀ q ∈ new, q.1 ≠ 52) →
      Q (.ref f) { s with heap := h', toks := tk }) :
   wpAny M A (makeFunction name qualL params (.expr body) scope (envX cn cs L a ccd cl) [] [] [] posL fl) Q E s := by
  obtain ⟨o176, m176⟩ := h176
  rcases hq with hn | ⟨c', oc, vs, t, hf, hm, hc1, hc2, hd, hv⟩
  · refine kla_nest F N T C hcd (.head fun q hq => nomatch hq) ht hn hcl fun f c' oc vs t ctv h' tk F2 N2 hd hv hlt hcf => ?_
    have c52 : c' ≠ 52 := fun q => by
      have h1 := hlt (52, tabObj p1) (.head _)
      subst q
      exact absurd h1 (Nat.lt_irrefl _)
    have nc := N2 (c', oc) (.tail _ (.head _))
    have c176 : c' ≠ 176 := fun q => by
      have := hled _ m176 (by show (176 : Nat) ≠ 52; decide)
      have e := nc.2.2
      rw [q, this] at e
      cases e
    refine k f c' ctv h' tk _ [(c', oc)] F2 (fun q hq => N2 q ?_) ⟨c', oc, vs, t, rfl, nc.1, hd, hv⟩ (by simpa using TriplesOk_snoc _ _ _ _ ht) (.inr ⟨c', oc, vs, t, among_new ht hn, .head _, c52, c176, hd, hv⟩) (fun q hq => by rw [List.mem_singleton.mp hq]; exact c52)
    simp only [List.mem_cons, List.not_mem_nil, or_false] at hq ⊢
    rcases hq with rfl | rfl | rfl
    · exact .inl rfl
    · exact .inr (.inr rfl)
    · exact .inr (.inl rfl)
  · refine kla_hit F N T C hcd (.head _) ht hf hcl fun f ctv h' tk F2 N2 hlt => ?_
    exact k f c' ctv h' tk p1 [] F2 N2 ⟨c', oc, vs, t, rfl, F2.keep _ _ (hled _ hm hc1), hd, hv⟩ ht (.inr ⟨c', oc, vs, t, hf, hm, hc1, hc2, hd, hv⟩) (fun q hq => nomatch hq)
end
section
local macro_rules | `(tactic| k_steps) => `(tactic| repeat' ((fail_if_success (with_reducible show wpAny _ _ (eval (Expr.Call (Expr.Attribute (Expr.Name _ _) _ _) _ _ _) _) _ _ _)); (fail_if_success (with_reducible show wpAny _ _ (call (Value.builtin "str.join") _) _ _ _)); (fail_if_success (with_reducible show wpAny _ _ (eval (Expr.Lambda _ _ _ _) _) _ _ _)); (fail_if_success (with_reducible show wpAny _ _ (callWith _ (Value.builtin "re.Pattern.sub") _ _ _) _ _ _)); first | (k_unfold; (try dsimp only)) | (k_end; wrow_close) | walk1 | (dsimp only; walk1) | (leave1; walk_say "STEP leave1"; try dsimp only) | fail "no step"))
set_option maxRecDepth 100000 in
set_option maxHeartbeats 8000000 in
theorem charset_spec (w : World) : CharsetSpec w := by
  intro loose mean mg mb dp un fr gd s Q E g l vs cs p1 led X T hkeep hgs h52g hd hl hS hn h52 ht1 hq1 hled h176 k
  have st : g.StaysIn (hideAll s.heap ([(52, tabObj p1)].map (·.1))) := fun b o e => hideAll_get _ (hkeep b o e) (by
    simp only [List.map_cons, List.map_nil, List.mem_singleton]
    rintro rfl
    rw [h52g] at e
    cases e)
  have hall : ∀ b o, b ≠ 52 → s.heap.get? b = some o → (hideAll s.heap ([(52, tabObj p1)].map (·.1))).get? b = some o := fun b o hb e => hideAll_get _ e (by
    simp only [List.map_cons, List.map_nil, List.mem_singleton]
    exact hb)
  have X' : (Mine.hd.heap_39 w.params).In (hideAll s.heap ([(52, tabObj p1)].map (·.1))) := X.keeps st
  have T' := T.keeps st
  have XS : (Mine.hd.heap_39 w.params).In s.heap := X.keeps hkeep
  have hlim := T.nolimit.keeps hkeep
  clear X T
  delta PR
  revert X'
  k_fill; intro X'
  have hCd : CodeHd (hideAll s.heap ([(52, tabObj p1)].map (·.1))) 56 52 := codeHd_of_K X' (by first | decide +kernel | rfl)
  have h43 := X' 43 _ (by k_is)
  have h42 := X' 42 _ (by k_is)
  refine wpAny_call ?_
  k_dflt (refine' enter_fn [(52, tabObj p1)] (fun p hp => by rw [List.mem_singleton.mp hp]; exact h52) XS hlim ?k6 ?k7 ?k8 ?k9 ?kB ?_ ?c2 ?c3 ?c4 ?c5; (case k6 => k_is); (case k7 => k_is); (case k8 => (show dp < _; simp only [recursionLimit]; omega)); (case k9 => exact BindsTo.of_eq rfl); (case kB => exact locs rfl); (case c2 => exact rfl); (case c3 => exact rfl); (case c4 => exact rfl); (case c5 => decide); k_whole)
  intro L h₁ hL F' N'
  generalize hideAll s.heap ([(52, tabObj p1)].map (·.1)) = g' at *
  k_steps
  have hmg := mg_of X' T'.g (n := PySem.Str.ofString "CS_ESCAPE") (v := .ref 43) (by k_is)
  have hl52 : l ≠ 52 := by
    rintro rfl
    obtain ⟨o, ho, hc, _⟩ := hl
    rw [h52] at ho
    obtain rfl := Option.some.inj ho
    cases hc
  have hl' : g'.IsList l vs.toArray := by
    obtain ⟨o, ho, r⟩ := hl
    exact ⟨o, hall _ _ hl52 ho, r⟩
  rename (Fr g' L _ _) => F1
  rename (News g' L _ _) => N1
  refine wpAny_Call_method (T := "re.Pattern") (id := "re.Pattern.sub") rfl rfl rfl plain_pattern slot_sub type_sub (wpAny_Name (ks_loadName_global rfl rfl (PySem.Calls.loadGlobal_global (T'.g.keeps F1.keep) hmg ?_)))
  refine ⟨⟨_, F1.keep _ _ h43, rfl⟩, fun a e => by cases e; exact ⟨_, F1.keep _ _ h43, rfl⟩, ?_⟩
  show wpAny _ _ (callWith _ _ _ [(false, eval _ _), (false, eval _ _)] []) _ _ _
  refine PySem.Calls.callWith_builtin rfl (PySem.Calls.evalArgs_plain (PySem.Calls.spliced_cons ?_))
  refine kla_eval rfl ?_
  refine lam_L hCd T' F1 N1 ht1 hq1 (fun q hq hne => hall _ _ hne (hled q hq)) h176 rfl rfl ?_
  intro f c' ctv h2 tk2 p1' new F2 N2 hcr ht2 hq2 hnew
  refine PySem.Calls.spliced_cons ?_
  clear F1 N1
  k_sweep
  k_steps
  obtain ⟨ps, hp1, hp2⟩ := strs_pairs hS
  rw [show PySem.Str.ofString "" = S [] from rfl]
  have hflat := flat_ones cs
  have hl2 : h2.IsList l vs.toArray := by
    obtain ⟨o, ho, r⟩ := hl'
    exact ⟨o, F2.keep _ _ ho, r⟩
  have hel := encL_len' cs
  refine SC.join (l := ps) (texts := (cs.map fun c => [c]).map S) (by rw [hp1]; exact hl2) hp2 (join_ok (by rw [hflat]; omega)) fun t3 tk3 => ?_
  rw [show Txt.join (S []) ((cs.map fun c => [c]).map S) = S cs by
    show Builtin.Str.glued (S []) _ = _
    rw [StrLaws.glued_eq_join, join_parts, hflat]]
  refine PySem.Calls.spliced_nil ?_
  have h43' := F2.keep _ _ h43
  refine sub_call ⟨⟨_, _, _, _, _, _, _, h43', rfl, rfl⟩, ⟨_, _, _, F2.keep _ _ h42, rfl, by simp [Builtin.Re.reRawOf, csCode]⟩⟩ ⟨_, (N2 _ (.head _)).1, rfl⟩ (by omega) (Heap.lt_size h43') (fun h4 hk4 => ?_) fun h4 tk4 t4 hk4 => ?_
  · intro s5 ma tp li j c Q5 E5 hk5 hma htp hc hQ5
    have up : ∀ b o, h2.get? b = some o → s5.heap.get? b = some o := fun b o e => hk5 b o (Nat.ne_of_lt (Heap.lt_size e)) (hk4 b o e)
    have hcr5 : s5.heap.CodeRec (.ref c') qualL := by
      obtain ⟨c2, oc, vs2, t2, e1, e2, e3, e4⟩ := hcr
      exact ⟨c2, oc, vs2, t2, e1, up _ _ e2, e3, e4⟩
    exact lamL_spec (up _ _ (N2 _ (.head _)).1) hcr5 (T'.nolimit.keeps fun b o e => up b o (F2.keep b o e)) (by show dp + 1 < recursionLimit; simp only [recursionLimit]; omega) rfl rfl rfl rfl rfl rfl (by decide) hma htp hc hQ5
  · have F4 := F2.keeps hk4
    have N4 := news_keeps N2 hk4
    have hSe : (S (encL cs)).length ≤ 2000 := by rw [S_len]; omega
    clear F2 N2
    k_sweep
    k_steps
    rw [show PySem.Str.ofString "[" = S [91] from rfl, show PySem.Str.ofString "]" = S [93] from rfl, S_app, S_app]
    refine k h4 _ _ p1' new (fun b o hb e => Fr.keep (by with_reducible assumption) b o (hall b o hb e)) (N4 _ (.tail _ (.head _))).1 ht2 hq2 fun q hq => ⟨(N4 _ (.tail _ (.tail _ hq))).1, ?_⟩
    cases hs : s.heap.get? q.1 with
    | none => rfl
    | some o =>
      have := hall _ _ (hnew q hq) hs
      rw [(N4 _ (.tail _ (.tail _ hq))).2.2] at this
      cases this
end
end Mine
end

section
open PySem PySem.W PySem.Calls PyProof.Rows
set_option Elab.async false
set_option maxRecDepth 100000
namespace Mine
theorem entry_set_iter : entryFor table "set.__iter__" = some Builtin.«frozenset.__iter__» := entryFor_alias (id' := "frozenset.__iter__") (by kernel_rfl) rfl (by decide +kernel) (by kernel_rfl)
theorem args_set_iter (a : Value) : argsOk "set.__iter__" ⟨[a], []⟩ := by unfold argsOk; kernel_rfl
theorem slot_setiter_next : Slot "set_iterator" "__next__" "set_iterator.__next__" :=
  .of (owner := "set_iterator") (n := "__next__") (by rw [typeLookup_type, builtinLookup_eq_fast]; kernel_rfl) (by decide +kernel) (by decide +kernel) (by decide +kernel)
    (by first | exact .inl (by decide +kernel) | exact .inr (by decide +kernel)) (by rw [isSubtype_type]; kernel_rfl)
theorem entry_setiter_next : entryFor table "set_iterator.__next__" = some Builtin.«set_iterator.__next__» := entryFor_of_fast (by kernel_rfl)
theorem args_setiter_next (a : Value) : argsOk "set_iterator.__next__" ⟨[a], []⟩ := by unfold argsOk; kernel_rfl
theorem slot_setiter_iter : Slot "set_iterator" "__iter__" "set_iterator.__iter__" :=
  .of (owner := "set_iterator") (n := "__iter__") (by rw [typeLookup_type, builtinLookup_eq_fast]; kernel_rfl) (by decide +kernel) (by decide +kernel) (by decide +kernel)
    (by first | exact .inl (by decide +kernel) | exact .inr (by decide +kernel)) (by rw [isSubtype_type]; kernel_rfl)
theorem args_setiter_iter (a : Value) : argsOk "set_iterator.__iter__" ⟨[a], []⟩ := by unfold argsOk; kernel_rfl
theorem entry_setiter_iter : entryFor table "set_iterator.__iter__" = some Builtin.«dict_keyiterator.__iter__» := entryFor_alias (id' := "dict_keyiterator.__iter__") (by kernel_rfl) rfl (by decide +kernel) (by kernel_rfl)
end Mine
end

section
open PySem PySem.W PySem.Calls PyProof.Rows
set_option Elab.async false
set_option maxRecDepth 100000
namespace Mine
/-- a set of strs, each once -/
def SSet (prog : Program) (w : World) (h : Heap) (a : Addr) (ks : List (List Nat)) : Prop :=
  ∃ (o : Obj) (es : Array (Int × Value)) (ep : Nat) (t : SetTable) (l : List (List Nat)), h.get? a = some o ∧ o.ExactSet ∧ o.data = .set es ep t ∧ ElemsOf (PySem.strKind prog w) es.toList ∧ StrsAre (es.toList.map (·.2)) (l.map S) ∧ l.Perm ks ∧ ks.Nodup ∧ t.fits es.size = true ∧ t.led = !(w.params.followText "set-order") ∧ (t.plain = true → es.size = 0)
theorem strsAre_len {vs : List Value} {l : List (List Nat)} (h : StrsAre vs (l.map S)) : vs.length = l.length := by
  have := StrsAre.length h
  rwa [List.length_map] at this
theorem SSet.keeps {prog : Program} {w : World} {h h' : Heap} {a : Addr} {ks : List (List Nat)} (x : SSet prog w h a ks) (hk : ∀ o, h.get? a = some o → h'.get? a = some o) : SSet prog w h' a ks := by
  obtain ⟨o, es, ep, t, l, ho, r⟩ := x
  exact ⟨o, es, ep, t, l, hk _ ho, r⟩
theorem isStr_iff {x : PySem.Str} {v : Value} : (PySem.strKind prog w).is x v = true ↔ ∃ t, v = .str x t :=
  ⟨fun h => Value.isStrOf_shape h, fun ⟨t, e⟩ => by subst e; exact (show Value.isStrOf x (.str x t) = true by simp [Value.isStrOf])⟩
theorem strs_inv {v : Value} {vs : List Value} {l : List (List Nat)} (h : StrsAre (v :: vs) (l.map S)) : ∃ (y : List Nat) (r : List (List Nat)) (t : Tok), l = y :: r ∧ v = .str (S y) t ∧ StrsAre vs (r.map S) := by
  cases l with
  | nil => cases h
  | cons y r =>
    rw [List.map_cons] at h
    cases h with
    | cons _ t h => exact ⟨y, r, t, rfl, rfl, h⟩
theorem strs_perm {es es' : List (Int × Value)} (hp : es'.Perm es) : ∀ {l : List (List Nat)}, StrsAre (es.map (·.2)) (l.map S) → ∃ l' : List (List Nat), StrsAre (es'.map (·.2)) (l'.map S) ∧ l'.Perm l := by
  induction hp with
  | nil => intro l h; exact ⟨l, h, .refl _⟩
  | cons x _ ih =>
    intro l h
    rw [List.map_cons] at h
    obtain ⟨y, r, t, rfl, e, h⟩ := strs_inv h
    obtain ⟨l', h1, h2⟩ := ih h
    exact ⟨y :: l', by rw [List.map_cons, List.map_cons, e]; exact .cons _ _ h1, h2.cons _⟩
  | swap x y r =>
    intro l h
    rw [List.map_cons, List.map_cons] at h
    obtain ⟨p, l1, t, rfl, e1, h⟩ := strs_inv h
    obtain ⟨q, l2, u, rfl, e2, h⟩ := strs_inv h
    exact ⟨q :: p :: l2, by rw [List.map_cons, List.map_cons, List.map_cons, List.map_cons, e1, e2]; exact .cons _ _ (.cons _ _ h), .swap _ _ _⟩
  | trans _ _ ih1 ih2 =>
    intro l h
    obtain ⟨l1, a1, a2⟩ := ih2 h
    obtain ⟨l2, b1, b2⟩ := ih1 a1
    exact ⟨l2, b1, b2.trans a2⟩
theorem orStandIn_led (t : SetTable) (n : Nat) : (t.orStandIn n).led = t.led ∧ ((t.orStandIn n).plain = true → t.plain = true) := by
  unfold SetTable.orStandIn
  split
  · exact ⟨rfl, fun h => h⟩
  · exact ⟨rfl, fun h => by simp [SetTable.standIn] at h⟩
theorem layNew_led (t : SetTable) (es : Array (Int × Value)) (h : Int) (x : Value) : (layNew t es h x).2.1.led = t.led ∧ ((layNew t es h x).2.1.plain = true → t.plain = true) := by
  unfold layNew
  split
  · exact orStandIn_led _ _
  · exact ⟨rfl, fun h => by simp [SetTable.standIn] at h⟩
theorem laid_led {mask finger moves : Nat} {led plain : Bool} {hs : Array Int} {t : SetTable} {o : Array Nat} (h : SetTable.laid mask finger moves led plain hs = some (t, o)) : t.led = led ∧ t.plain = plain := by
  unfold SetTable.laid at h
  cases hc : SetTable.layClean mask hs with
  | none => rw [hc] at h; cases h
  | some ow =>
    rw [hc] at h
    simp only [Option.bind_eq_bind, Option.bind_some] at h
    obtain ⟨rfl, _⟩ := Prod.mk.inj (Option.some.inj h)
    exact ⟨rfl, rfl⟩
theorem relayAll_led (t : SetTable) (es : Array (Int × Value)) (n : Nat) : (relayAll t es n).2.1.led = t.led ∧ ((relayAll t es n).2.1.plain = true → t.plain = true) := by
  unfold relayAll
  split
  · rename_i t' order he
    obtain ⟨h1, h2⟩ := laid_led he
    dsimp only
    split
    · exact ⟨h1, fun h => by rw [← h2]; exact h⟩
    · exact ⟨rfl, fun h => by simp [SetTable.standIn] at h⟩
  · exact ⟨rfl, fun h => by simp [SetTable.standIn] at h⟩
end Mine
end

section
open PySem PySem.W PySem.Calls PyProof.Rows
set_option Elab.async false
set_option maxRecDepth 100000
namespace Mine
section
variable {prog : Program} {w : World} {A : Around} {E : Value → Shared → Prop} {s : Shared}
theorem sset_store {h : Heap} {a : Addr} {o : Obj} {es : Array (Int × Value)} {ep : Nat} {t : SetTable} (ho : h.get? a = some o) (hex : o.ExactSet) (hd : o.data = .set es ep t)
    {es' : Array (Int × Value)} {t' : SetTable} {l ks : List (List Nat)} (hel : ElemsOf (PySem.strKind prog w) es'.toList) (hv : StrsAre (es'.toList.map (·.2)) (l.map S)) (hp : l.Perm ks) (hn : ks.Nodup) (hf : t'.fits es'.size = true) (hled : t'.led = !(w.params.followText "set-order")) (hpl : t'.plain = false) :
    (h.update a (Obj.putSet es' t')).get? a = some { o with data := .set es' (ep + 1) t' } ∧ SSet prog w (h.update a (Obj.putSet es' t')) a ks := by
  have hg : (h.update a (Obj.putSet es' t')).get? a = some { o with data := .set es' (ep + 1) t' } := by
    have := Heap.get?_update_self (Obj.putSet es' t') ho (by rw [putSet_of es' t' hd]; rfl)
    rw [putSet_of es' t' hd] at this
    exact this
  exact ⟨hg, _, es', ep + 1, t', l, hg, hex, rfl, hel, hv, hp, hn, hf, hled, fun q => by rw [hpl] at q; cases q⟩
theorem addTail_S {g : Bool → Sem Unit} (hg : ∀ (b : Bool) (s₁ : Shared) (Q' : Unit → Shared → Prop), Q' () s₁ → wpAny (model prog w) A (g b) Q' E s₁)
    {a : Addr} {o : Obj} {es : Array (Int × Value)} {ep : Nat} {t : SetTable} (ho : s.heap.get? a = some o) (hex : o.ExactSet) (hd : o.data = .set es ep t)
    {es1 : Array (Int × Value)} {t2 : SetTable} {l1 ks : List (List Nat)} (hel1 : ElemsOf (PySem.strKind prog w) es1.toList) (hv1 : StrsAre (es1.toList.map (·.2)) (l1.map S)) (hp1 : l1.Perm ks) (hn : ks.Nodup)
    (hb1 : es1.size < scanBound) (hf2 : t2.fits es1.size = true) (hled : t2.led = !(w.params.followText "set-order")) (hpl : t2.plain = false) {wasDummy : Bool} {R : Option Bool → Shared → Prop}
    (h : ∀ h', Heap.SameBut a s.heap h' → SSet prog w h' a ks → R (some true) { s with heap := h' }) :
    wpAny (model prog w) A (do
        storeSet a es1 t2
        if (!wasDummy && t2.tooFull) = true then do
            g (relayAll t2 es1 (SetTable.grown es1.size)).2.2
            storeSet a (relayAll t2 es1 (SetTable.grown es1.size)).1 (relayAll t2 es1 (SetTable.grown es1.size)).2.1
            pure (some true)
          else pure (some true)) R E s := by
  refine wpAny_bind (wpAny_storeSet_of ho hd ?_ (fits_of_scanBound hb1))
  obtain ⟨ho1, hS1⟩ := sset_store (prog := prog) (w := w) ho hex hd hel1 hv1 hp1 hn hf2 hled hpl
  have hsb1 := Heap.SameBut.update s.heap a (Obj.putSet es1 t2)
  split
  · have hp := relayAll_perm t2 es1 (SetTable.grown es1.size)
    have hfr := relayAll_fits t2 es1 (SetTable.grown es1.size)
    obtain ⟨hl3, hp3⟩ := relayAll_led t2 es1 (SetTable.grown es1.size)
    generalize relayAll t2 es1 (SetTable.grown es1.size) = Rl at hp hfr hl3 hp3 ⊢
    obtain ⟨es2, t3, gave2⟩ := Rl
    dsimp only at hp hfr hl3 hp3 ⊢
    have hsz : es2.size = es1.size := by rw [← Array.length_toList, hp.length_eq, Array.length_toList]
    obtain ⟨l2, hv2, hp2⟩ := strs_perm hp hv1
    refine wpAny_bind (hg _ _ _ ?_)
    refine wpAny_bind (wpAny_storeSet_of ho1 rfl ?_ (fits_of_scanBound (by rw [hsz]; exact hb1)))
    obtain ⟨_, hS2⟩ := sset_store (prog := prog) (w := w) ho1 hex rfl (hel1.perm hp) hv2 (hp2.trans hp1) hn hfr (hl3.trans hled) (by
      cases q : t3.plain with
      | false => rfl
      | true => rw [hp3 q] at hpl; cases hpl)
    exact wpAny_pure (h _ (hsb1.trans (Heap.SameBut.update _ a _)) hS2)
  · exact wpAny_pure (h _ hsb1 hS1)
theorem strs_mem {vs : List Value} {l : List (List Nat)} (h : StrsAre vs (l.map S)) {x : List Nat} : x ∈ l ↔ ∃ t, Value.str (S x) t ∈ vs := by
  induction l generalizing vs with
  | nil => cases h; simp
  | cons y r ih =>
    rw [List.map_cons] at h
    cases h with
    | cons _ t h =>
      rw [List.mem_cons, ih h]
      constructor
      · rintro (rfl | ⟨u, hu⟩)
        · exact ⟨t, List.mem_cons_self ..⟩
        · exact ⟨u, List.mem_cons_of_mem _ hu⟩
      · rintro ⟨u, hu⟩
        rcases List.mem_cons.mp hu with e | hu
        · injection e with e1 e2
          exact .inl (S_inj e1)
        · exact .inr ⟨u, hu⟩
theorem setAdd_S {a : Addr} {ks : List (List Nat)} {x : List Nat} {u : Tok} {Q : Bool → Shared → Prop} (hS : SSet prog w s.heap a ks) (hroom : ks.length + 1 < scanBound)
    (h : ∀ b h' tk, Heap.SameBut a s.heap h' → SSet prog w h' a (if x ∈ ks then ks else ks ++ [x]) → Q b { s with heap := h', toks := tk }) : wpAny (model prog w) A (setAdd a (.str (S x) u)) Q E s := by
  have hkey : (PySem.strKind prog w).is (S x) (.str (S x) u) = true := isStr_iff.mpr ⟨u, rfl⟩
  unfold setAdd
  refine wpAny_holding (wpAny_bind ((PySem.strKind prog w).pyHash (k := S x) hkey ?_))
  have hS0 := hS
  obtain ⟨o, es, ep, t, l, ho, hex, hd, hel, hv, hp, hn, hf, hled, hpl⟩ := hS
  have hlen : es.size = ks.length := by
    have := strsAre_len hv
    rw [List.length_map, Array.length_toList] at this
    rw [this, hp.length_eq]
  have hb : es.size < scanBound := by omega
  unfold setAddHashed setAddHashedIn
  refine wpAny_holding (wpAny_bind (wpAny_setState_of ho hd hf ?_))
  dsimp only
  rw [byScan_of (knd := PySem.strKind prog w) rfl hb hel]
  simp only [↓reduceIte]
  unfold setAddByScan
  refine wpAny_bind ?_
  refine wpAny_bind (wpAny_rule ?_)
  refine wpAny_bind (wpAny_setScan_of hkey ho hd hf hel ?_)
  cases hr : List.findIdx? (fun e => (PySem.strKind prog w).is (S x) e.2) es.toList with
  | some j =>
    dsimp only
    obtain ⟨hj, hpj, _⟩ := List.findIdx?_eq_some_iff_getElem.mp hr
    obtain ⟨t', he⟩ := isStr_iff.mp hpj
    have hx : x ∈ ks := hp.mem_iff.mp ((strs_mem hv).mpr ⟨t', List.mem_map.mpr ⟨_, List.getElem_mem hj, he⟩⟩)
    refine wpAny_pure (wpAny_pure ?_)
    have := h false s.heap (s.toks + 1) (Heap.SameBut.refl a s.heap)
    rw [if_pos hx] at this
    exact this hS0
  | none =>
    dsimp only
    have hx : x ∉ ks := fun q => by
      obtain ⟨t', ht⟩ := (strs_mem hv).mp (hp.mem_iff.mpr q)
      obtain ⟨e, he, hq⟩ := List.mem_map.mp ht
      have := List.findIdx?_eq_none_iff.mp hr e he
      rw [isStr_iff.mpr ⟨t', hq⟩] at this
      cases this
    have hgw : ∀ (b : Bool) {s₁ : Shared} {Q' : Unit → Shared → Prop}, Q' () s₁ → wpAny (model prog w) A (match b with | true => rule "set.scan.the-table-gave-way" | false => pure ()) Q' E s₁ :=
      fun b s₁ Q' hq => by cases b <;> first | exact wpAny_pure hq | exact wpAny_rule hq
    have hperm := layNew_perm t es ((PySem.strKind prog w).hash (S x)) (.str (S x) u)
    have hfits := layNew_fits t es ((PySem.strKind prog w).hash (S x)) (.str (S x) u)
    obtain ⟨hl1, hp1⟩ := layNew_led t es ((PySem.strKind prog w).hash (S x)) (.str (S x) u)
    generalize layNew t es ((PySem.strKind prog w).hash (S x)) (.str (S x) u) = L at hperm hfits hl1 hp1 ⊢
    obtain ⟨es1, t1, wasDummy, gave⟩ := L
    dsimp only at hperm hfits hl1 hp1 ⊢
    rw [Array.toList_push] at hperm
    have hel1 : ElemsOf (PySem.strKind prog w) es1.toList := (hel.push hkey rfl).perm hperm
    have hv0 : StrsAre ((es.toList ++ [((PySem.strKind prog w).hash (S x), Value.str (S x) u)]).map (·.2)) ((l ++ [x]).map S) := by
      rw [List.map_append, List.map_append]
      exact hv.append' (.cons _ _ .nil)
    obtain ⟨l1, hv1, hp2⟩ := strs_perm hperm hv0
    have hpk : l1.Perm (ks ++ [x]) := hp2.trans (hp.append_right _)
    have hnk : (ks ++ [x]).Nodup := by
      refine List.nodup_append.mpr ⟨hn, by simp, fun y hy z hz e => ?_⟩
      rw [List.mem_singleton] at hz
      exact hx (hz ▸ e ▸ hy)
    have hb1' : es1.size < scanBound := by rw [← Array.length_toList, hperm.length_eq, List.length_append, Array.length_toList]; simp; omega
    refine wpAny_bind (hgw _ ?_)
    have hend : ∀ h', Heap.SameBut a s.heap h' → SSet prog w h' a (ks ++ [x]) → Q true { s with heap := h', toks := s.toks + 1 } := by
      intro h' hsb hS'
      have := h true h' (s.toks + 1) hsb
      rw [if_neg hx] at this
      exact this hS'
    split
    · refine wpAny_bind ?_
      rw [hashByValue_scannable 8 (x := .str (S x) u) rfl]
      refine wpAny_pure ?_
      refine addTail_S (s := { s with toks := s.toks + 1 }) (l1 := l1) (ks := ks ++ [x]) ?_ ho hex hd hel1 hv1 hpk hnk hb1' ?_ ?_ ?_ fun h' hsb hS' => ?_
      · intro b s₁ Q' hq; cases b <;> first | exact wpAny_pure hq | exact wpAny_rule hq
      · exact SetTable.fits_plain_off hfits
      · exact hl1.trans hled
      · rfl
      · dsimp only
        exact wpAny_pure (hend h' hsb hS')
    · rename_i hnp
      refine wpAny_bind (wpAny_pure ?_)
      simp only [↓reduceIte]
      refine addTail_S (s := { s with toks := s.toks + 1 }) (l1 := l1) (ks := ks ++ [x]) ?_ ho hex hd hel1 hv1 hpk hnk hb1' hfits (hl1.trans hled) (by simpa using hnp) fun h' hsb hS' => ?_
      · intro b s₁ Q' hq; cases b <;> first | exact wpAny_pure hq | exact wpAny_rule hq
      dsimp only
      exact wpAny_pure (hend h' hsb hS')
end
end Mine
end

section
open PySem PySem.W PySem.Calls PyProof.Rows
set_option Elab.async false
set_option maxRecDepth 100000
namespace Mine
section
variable {prog : Program} {w : World} {A : Around} {E : Value → Shared → Prop} {s : Shared}
def newSetO (w : World) : Obj := { cls := .type "set", dict := none, data := .set #[] 0 (.fresh 0 0 (!(w.params.followText "set-order"))) }
theorem code_set_new_w (a : Value) {Q₁ : Value → Shared → Prop}
    (h : Q₁ (.ref s.heap.objs.size) { s with heap := s.heap.push (newSetO w) }) :
    codeAny (model prog w) A (.call (.builtin "set.__new__") ⟨[.type "set", a], []⟩) (wants Q₁ E) s := by
  refine codeAny_of_tree ?_
  show wpAny _ A.in1 (do checkBuiltinCall "set.__new__" ⟨[.type "set", a], []⟩; again (.builtin "set.__new__" ⟨[.type "set", a], []⟩)) _ _ s
  refine wpAny_bind (wpAny_of_eq (F.newCall_set_1 a) (wpAny_pure ⟨plainId_quiet F.plain_set_new _, codeAny_builtin F.entry_set_new ?_⟩))
  rw [Around.under_plainId F.plain_set_new _]
  unfold Builtin.«set.__new__» Builtin.Frozenset.newClass
  refine wpAny_bind ?_
  refine wpAny_bind (wpAny_of_eq (a := true) rfl ?_)
  refine wpAny_bind (wpAny_of_eq sub_set_self ?_)
  refine wpAny_pure ?_
  refine wpAny_bind ?_
  unfold newSet setsByText
  refine wpAny_bind (wpAny_bind (wpAny_askSetting (wpAny_pure ?_)))
  dsimp only
  simp only [newObj]
  exact wpAny_bind (wpAny_alloc (wpAny_pure (wpAny_pure h)))
/-- the class set called upon one value: its __init__ is told as a whole -/
theorem call_set_one {a : Value} {Q : Value → Shared → Prop}
    (h : wpAny (model prog w) A.in1.in1 (Builtin.«set.__init__» ⟨[.ref s.heap.objs.size, a], []⟩) (fun fin s' => fin = .done (.ret .none) ∧ Q (.ref s.heap.objs.size) s') (fun _ _ => False) { s with heap := s.heap.push (newSetO w) }) :
    wpAny (model prog w) A (call (.type "set") [a]) Q E s := by
  obtain ⟨c, tl, hmro⟩ := F.called_set.mro
  have hmade := F.called_set.made
  have hsub := F.called_set.sub
  refine wpAny_call (codeAny_of_tree ?_)
  show wpAny _ _ (callAny (.type "set") _) _ _ _
  refine wpAny_pure ⟨Code.quiet_builtin _ (by decide +kernel), codeAny_builtin F.entry_type_call ?_⟩
  rw [Around.under_plain (weight_type_call_type "set" [a] []) rfl]
  have h1 := F.called_set.notType
  have h2 := F.called_set.canCreate
  have hct := F.typeCall_set_1 a
  repeat (any_goals (first | assumption | wp_step))
  refine codeAny_mono (code_set_new_w a (E := E) (Q₁ := fun obj s₁ => obj = .ref s.heap.objs.size ∧ s₁ = { s with heap := s.heap.push (newSetO w) }) ⟨rfl, rfl⟩) fun r s₁ hr => ?_
  match r, hr with
  | .ok (.ret obj), hr =>
    obtain ⟨rfl, rfl⟩ := hr
    have hT : Shared.TypeIs { s with heap := s.heap.push (newSetO w) } (.ref s.heap.objs.size) "set" := ⟨_, Heap.get?_push_size _ rfl, rfl⟩
    have hli := F.called_set.init.lookup
    have hbi := F.called_set.init.bind (.ref s.heap.objs.size)
    repeat (any_goals (first | assumption | wp_step))
    refine codeAny_mono (codeAny_call_builtin (R := wants (fun r s₂ => r = .none ∧ Q (.ref s.heap.objs.size) s₂) E) F.called_set.init.plain F.entry_set_init (check_set_init_1 hT (wpAny_mono h (fun fin s' hf => ?_) fun _ _ e => e.elim))) fun r₂ s₂ hr₂ => ?_
    · obtain ⟨rfl, hq⟩ := hf
      exact ⟨rfl, hq⟩
    · match r₂, hr₂ with
      | .ok (.ret r), hr₂ =>
        obtain ⟨rfl, hq⟩ := hr₂
        repeat (any_goals (first | assumption | wp_step))
      | .error e, hr₂ => exact hr₂
  | .error e, hr => exact hr
end
end Mine
end

section
open PySem PySem.W PySem.Calls PyProof.Rows
set_option Elab.async false
set_option maxRecDepth 100000
namespace Mine
section
variable {prog : Program} {w : World} {A : Around} {E : Value → Shared → Prop} {s s0 : Shared} {R : Result → Shared → Prop} {Sa I l : Addr} {vs : List Value} {ws : List (List Nat)}
theorem set_loop (hh : A.handled = none) (hS : StrsAre vs (ws.map S)) (hb : ws.length + 1 < scanBound) (hSI : Sa ≠ I) (hSl : Sa ≠ l) (hlI : l ≠ I)
   (hR : ∀ h' tk ks, SSet prog w h' Sa ks → (∀ x, x ∈ ks ↔ x ∈ ws) → (∀ b o, b ≠ Sa → b ≠ I → s0.heap.get? b = some o → h'.get? b = some o) → R (.ok (.ret .none)) { s0 with heap := h', toks := tk }) :
   ∀ (k i : Nat) (h : Heap) (tk : Nat) (ks : List (List Nat)), ws.length - i = k → i ≤ ws.length → h.IsListIter I l i → h.IsList l vs.toArray → SSet prog w h Sa ks → (∀ x, x ∈ ks ↔ x ∈ ws.take i) → ks.length ≤ i →
     (∀ b o, b ≠ Sa → b ≠ I → s0.heap.get? b = some o → h.get? b = some o) → codeAny (model prog w) A (.builtin "set.update.loop" ⟨[.ref Sa, .ref I], []⟩) R { s0 with heap := h, toks := tk } := by
  have hlen := strsAre_len hS
  intro k
  induction k with
  | zero =>
    intro i h tk ks hk hi hit hl hks hmem hle hkeep
    obtain rfl : i = ws.length := by omega
    refine codeAny_builtin PyProof.Rows.F.entry_set_update_loop ?_
    rw [Around.under_plainId PyProof.Rows.F.plain_set_update_loop _]
    show wpAny _ A.in1 (pyNext (.ref I) >>= _) _ _ _
    refine wpAny_bind (wpAny_pyNext_list_end (by exact hh) hit hl (by rw [List.getElem?_toArray]; exact List.getElem?_eq_none (by omega)) fun h1 hs1 => ?_)
    show wpAny _ A.in1 (ret Value.none) _ _ _
    have hs1 : Heap.ExtBut I h h1 := hs1
    exact wpAny_pure (hR h1 tk ks (hks.keeps fun o e => hs1 _ _ hSI e) (fun x => by rw [hmem, List.take_length]) fun b o h1 h2 e => hs1 _ _ h2 (hkeep b o h1 h2 e))
  | succ k ih =>
    intro i h tk ks hk hi hit hl hks hmem hle hkeep
    have hlt : i < ws.length := by omega
    obtain ⟨u, hv⟩ := strs_item hS hlt
    refine codeAny_builtin PyProof.Rows.F.entry_set_update_loop ?_
    rw [Around.under_plainId PyProof.Rows.F.plain_set_update_loop _]
    show wpAny _ A.in1 (pyNext (.ref I) >>= _) _ _ _
    refine wpAny_bind (wpAny_pyNext_list_item hit hl (x := .str (S ws[i]) u) (by simpa using hv) fun h1 hit1 hs1 => ?_)
    have hs1 : Heap.SameBut I h h1 := hs1
    show wpAny _ A.in1 (holding [Value.str (S ws[i]) u] (setAdd Sa (.str (S ws[i]) u)) >>= _) _ _ _
    refine wpAny_bind (wpAny_holding (setAdd_S (ks := ks) (hks.keeps fun o e => hs1.extBut _ _ hSI e) (by omega) fun b h2 tk2 hs2 hks2 => ?_))
    have hs2 : Heap.SameBut Sa h1 h2 := hs2
    refine wpAny_pure ⟨plainId_quiet PyProof.Rows.F.plain_set_update_loop _, ih (i + 1) h2 tk2 _ (by omega) hlt ?_ ?_ hks2 ?_ ?_ ?_⟩
    · obtain ⟨oi, hoi, r⟩ := hit1
      exact ⟨oi, hs2.extBut _ _ (Ne.symm hSI) hoi, r⟩
    · obtain ⟨ol, hol, r⟩ := hl
      exact ⟨ol, hs2.extBut _ _ (Ne.symm hSl) (hs1.extBut _ _ hlI hol), r⟩
    · intro x
      rw [List.take_succ_eq_append_getElem hlt, List.mem_append, List.mem_singleton, ← hmem x]
      split
      · rename_i hx
        constructor
        · exact .inl
        · rintro (h | rfl)
          · exact h
          · exact hx
      · rw [List.mem_append, List.mem_singleton]
    · split
      · omega
      · rw [List.length_append, List.length_singleton]; omega
    · exact fun b o h1 h2 e => hs2.extBut _ _ h1 (hs1.extBut _ _ h2 (hkeep b o h1 h2 e))
/-- set(l), l a list of strs -/
theorem set_of_list {Q : Value → Shared → Prop} (hh : A.handled = none) (hl : s.heap.IsList l vs.toArray) (hS : StrsAre vs (ws.map S)) (hb : ws.length + 1 < scanBound)
   (h : ∀ h' tk ks, SSet prog w h' s.heap.objs.size ks → (∀ x, x ∈ ks ↔ x ∈ ws) → (∀ b o, s.heap.get? b = some o → h'.get? b = some o) → Q (.ref s.heap.objs.size) { s with heap := h', toks := tk }) :
   wpAny (model prog w) A (call (.type "set") [.ref l]) Q E s := by
  refine call_set_one ?_
  have hS0 : (s.heap.push (newSetO w)).get? s.heap.objs.size = some (newSetO w) := Heap.get?_push_size _ rfl
  have hT : Shared.TypeIs { s with heap := s.heap.push (newSetO w) } (.ref s.heap.objs.size) "set" := ⟨_, hS0, rfl⟩
  obtain ⟨ol, hol, hcl, nl, hdl⟩ := id hl
  have hl1 : (s.heap.push (newSetO w)).IsList l vs.toArray := ⟨ol, Heap.get?_push_of_some _ hol, hcl, nl, hdl⟩
  have hlt : l < s.heap.objs.size := Heap.lt_size hol
  obtain ⟨ocls, odict, odata, oslots⟩ := ol
  simp only at hcl hdl
  subst hcl hdl
  unfold newSetO at hS0 hT hl1 ⊢
  have hol' : (s.heap.push { cls := .type "set", dict := none, data := .set #[] 0 (.fresh 0 0 (!(w.params.followText "set-order"))) }).get? l = some { cls := .type "list", dict := odict, data := .seq vs.toArray nl, slots := oslots } := Heap.get?_push_of_some _ hol
  have hsls := F.sub_list_set
  have hslf := F.sub_list_frozenset
  have hne : (Value.type "list" == Value.type "dict") = false := by decide
  unfold Builtin.«set.__init__» noKeywords Builtin.Frozenset.updateFrom
  generalize hPI : pyIter = PI
  wp_walk
  subst hPI
  refine wpAny_pyIter_list hl1 ?_
  refine wpAny_bind (wpAny_runValue ?_)
  have hsz : (s.heap.push { cls := .type "set", dict := none, data := .set #[] 0 (.fresh 0 0 (!(w.params.followText "set-order"))) }).objs.size = s.heap.objs.size + 1 := Heap.size_push ..
  have hset : SSet prog w ((s.heap.push { cls := .type "set", dict := none, data := .set #[] 0 (.fresh 0 0 (!(w.params.followText "set-order"))) }).push { cls := .type "list_iterator", data := .fields #[.ref l, .int 0 0] }) s.heap.objs.size [] :=
    ⟨_, #[], 0, _, [], Heap.get?_push_of_some _ hS0, ⟨rfl, rfl, rfl⟩, rfl, fun e he => by simp at he, .nil, .refl _, List.nodup_nil, rfl, rfl, fun _ => rfl⟩
  refine set_loop (s0 := { s with heap := (s.heap.push { cls := .type "set", dict := none, data := .set #[] 0 (.fresh 0 0 (!(w.params.followText "set-order"))) }).push { cls := .type "list_iterator", data := .fields #[.ref l, .int 0 0] } }) (by exact hh) hS hb ?_ (Nat.ne_of_gt hlt) ?_ (fun h' tk ks h1 h2 h3 => ?_) (ws.length - 0) 0 _ s.toks [] rfl (Nat.zero_le _) ⟨_, Heap.get?_push_size _ rfl, rfl, rfl⟩ (hl1.push _) hset (fun x => by simp) (Nat.le_refl _) (fun _ _ _ _ e => e)
  · rw [hsz]; exact Nat.ne_of_lt (Nat.lt_succ_self _)
  · rw [hsz]; exact Nat.ne_of_lt (Nat.lt_succ_of_lt hlt)
  · show wpAny _ _ (pure ()) _ _ _
    refine wpAny_pure ?_
    show wpAny _ _ (ret Value.none) _ _ _
    refine wpAny_pure ⟨rfl, h h' tk ks h1 h2 fun b o e => h3 b o (Nat.ne_of_lt (Heap.lt_size e)) ?_ (Heap.get?_push_of_some _ (Heap.get?_push_of_some _ e))⟩
    show b ≠ (Heap.objs (s.heap.push _)).size
    rw [hsz]
    exact Nat.ne_of_lt (Nat.lt_succ_of_lt (Heap.lt_size e))
end
end Mine
end

section
open PySem PySem.W PySem.Calls PyProof.Rows
set_option Elab.async false
set_option maxRecDepth 100000
namespace Mine
theorem erase_perm {α : Type} : ∀ (l : List α) (i : Nat) (x : α), l[i]? = some x → (x :: l.eraseIdx i).Perm l
  | [], i, x, h => by simp at h
  | y :: l, 0, x, h => by
    obtain rfl : y = x := by simpa using h
    exact .refl _
  | y :: l, i + 1, x, h => by
    have := erase_perm l i x (by simpa using h)
    exact (List.Perm.swap _ _ _).trans (this.cons _)
theorem pick_perm {α : Type} (next : Nat → Nat) : ∀ (fuel k : Nat) (left : List α) (out : Array α), fuel = left.length → (pickOrder.go next fuel k left out).toList.Perm (out.toList ++ left)
  | 0, k, left, out, h => by
    obtain rfl := List.length_eq_zero_iff.mp h.symm
    simp [pickOrder.go]
  | fuel + 1, k, left, out, h => by
    unfold pickOrder.go
    have hlt : next k % left.length < left.length := Nat.mod_lt _ (by omega)
    rw [List.getElem?_eq_getElem hlt]
    dsimp only
    refine (pick_perm next fuel (k + 1) _ _ (by rw [List.length_eraseIdx]; simp [hlt]; omega)).trans ?_
    rw [Array.toList_push, List.append_assoc]
    exact (erase_perm left _ _ (List.getElem?_eq_getElem hlt)).append_left _
theorem pickOrder_perm {α : Type} (next : Nat → Nat) (xs : Array α) : (pickOrder next xs).toList.Perm xs.toList := by
  have := pick_perm next xs.size 0 xs.toList #[] (by simp)
  simpa [pickOrder] using this
section
variable {M : Model} {A : Around} {E : Value → Shared → Prop} {s : Shared}
theorem wpAny_choose {src : Source} {n : Nat} {Q : Nat → Shared → Prop} (hn : n ≠ 0) (h : ∀ i d', i < n → Q i { s with drawn := d' }) : wpAny M A (choose src n) Q E s := fun Γ p hΓ => by
  show Sem.wp M Γ (.choose src n .pure) _ _ p s
  rw [Sem.wp_choose]
  exact ⟨hn, h _ _ (Nat.mod_lt _ (Nat.pos_of_ne_zero hn))⟩
theorem wpAny_drawOrder {α : Type} : ∀ (n : Nat) (xs : List α) (s : Shared) {Q : List α → Shared → Prop}, n = xs.length → (∀ out d', out.Perm xs → Q out { s with drawn := d' }) → wpAny M A (drawOrder n xs) Q E s
  | 0, xs, s, Q, hn, h => by
    obtain rfl := List.length_eq_zero_iff.mp hn.symm
    unfold drawOrder
    exact wpAny_pure (h [] s.drawn (.refl _))
  | n + 1, [], s, Q, hn, h => by simp at hn
  | n + 1, x :: xs, s, Q, hn, h => by
    unfold drawOrder
    refine wpAny_bind (wpAny_choose (by simp) fun i d' hi => ?_)
    rw [List.getElem?_eq_getElem hi]
    dsimp only
    refine wpAny_bind (wpAny_drawOrder n _ _ (by rw [List.length_eraseIdx, if_pos hi]; simp at hn ⊢; omega) fun out d2 hp => ?_)
    exact wpAny_pure (h _ d2 ((hp.cons _).trans (erase_perm _ _ _ (List.getElem?_eq_getElem hi))))
end
abbrev itO (f : Value) (i : Nat) (a : Addr) (n ep : Nat) : Obj := { cls := .type "set_iterator", data := .fields #[f, .int i 0, .ref a, .int n 0, .int ep 0] }
section
variable {prog : Program} {w : World} {A : Around} {E : Value → Shared → Prop} {s : Shared} {I a tup : Addr} {o : Obj} {es : Array (Int × Value)} {ep : Nat} {t : SetTable}
/-- one step of a set's iterator that goes by a slot -/
theorem next_slot {slot i next : Nat} {v : Value} {Q : Option Value → Shared → Prop} (hI : s.heap.get? I = some (itO (.int slot 0) i a es.size ep)) (ho : s.heap.get? a = some o) (hd : o.data = .set es ep t) (hf : t.fits es.size = true)
   (hs : ∀ (Q' : Option (Value × Nat) → Shared → Prop) (E' : Value → Shared → Prop), Q' (some (v, next)) s → wpAny (model prog w) A.in1 (setNext a slot i ep) Q' E' s)
   (h : ∀ h', h'.get? I = some (itO (.int next 0) (i + 1) a es.size ep) → Heap.SameBut I s.heap h' → Q (some v) { s with heap := h' }) : wpAny (model prog w) A (pyNext (.ref I)) Q E s := by
  have hT : s.TypeIs (.ref I) "set_iterator" := ⟨_, hI, rfl⟩
  unfold pyNext
  refine wpAny_bind (wpAny_attempt (wpAny_callSpecial?_slot (name := Str.ofString "__next__") hT slot_setiter_next (wpAny_call_entry slot_setiter_next hT entry_setiter_next ?_ (args_setiter_next _))))
  unfold Builtin.«set_iterator.__next__»
  refine wpAny_bind (wpAny_pure ?_)
  refine wpAny_bind (wpAny_fieldsOf hI rfl ?_)
  refine wpAny_bind (wpAny_setEntries_of ho hd hf ?_)
  rw [if_neg (by simp)]
  dsimp only
  refine wpAny_bind ?_
  simp only [Int.toNat_natCast]
  refine hs _ _ ?_
  dsimp only
  refine wpAny_bind (wpAny_setField hI rfl (by simp) ?_)
  have hI2 := Heap.get?_update_self (Obj.mapFields (·.setIfInBounds 0 (rawInt next))) hI rfl
  refine wpAny_bind (wpAny_setField hI2 rfl (by simp) ?_)
  have hI3 := Heap.get?_update_self (Obj.mapFields (·.setIfInBounds 1 (rawInt ((i : Int) + 1)))) hI2 rfl
  refine wpAny_pure ⟨v, rfl, wpAny_pure (h _ hI3 ((Heap.SameBut.update ..).trans (Heap.SameBut.update ..)))⟩
theorem end_slot {slot i : Nat} {Q : Option Value → Shared → Prop} (hh : A.handled = none) (hI : s.heap.get? I = some (itO (.int slot 0) i a es.size ep)) (ho : s.heap.get? a = some o) (hd : o.data = .set es ep t) (hf : t.fits es.size = true)
   (hs : ∀ (Q' : Option (Value × Nat) → Shared → Prop) (E' : Value → Shared → Prop), Q' none s → wpAny (model prog w) A.in1 (setNext a slot i ep) Q' E' s)
   (h : ∀ h', Heap.ExtBut I s.heap h' → Q none { s with heap := h' }) : wpAny (model prog w) A (pyNext (.ref I)) Q E s := by
  have hT : s.TypeIs (.ref I) "set_iterator" := ⟨_, hI, rfl⟩
  unfold pyNext
  refine wpAny_bind (wpAny_attempt (wpAny_callSpecial?_slot (name := Str.ofString "__next__") hT slot_setiter_next (wpAny_call_entry slot_setiter_next hT entry_setiter_next ?_ (args_setiter_next _))))
  unfold Builtin.«set_iterator.__next__»
  refine wpAny_bind (wpAny_pure ?_)
  refine wpAny_bind (wpAny_fieldsOf hI rfl ?_)
  refine wpAny_bind (wpAny_setEntries_of ho hd hf ?_)
  rw [if_neg (by simp)]
  dsimp only
  refine wpAny_bind ?_
  simp only [Int.toNat_natCast]
  refine hs _ _ ?_
  dsimp only
  refine wpAny_bind (wpAny_setField hI rfl (by simp) ?_)
  refine wpAny_bind ?_
  simp only [newExc, newTuple]
  refine wpAny_bind (wpAny_newObj_type ?_ (by size_fits))
  refine wpAny_bind (m := firstArgMember _ _) (wpAny_of_eq (a := Value.none) (by first | rfl | (simp only [firstArgMember]; rfl)) ?_)
  refine wpAny_newObj_type ?_ (by size_fits)
  simp only [raiseNew]
  refine wpAny_bind (wpAny_handled ?_)
  rw [show A.in1.handled = none from hh]
  refine wpAny_bind (wpAny_pure (wpAny_throw ?_))
  refine wpAny_bind (wpAny_isInstance (T := "StopIteration") (b := true) ⟨_, Heap.get?_push_size _ rfl, rfl⟩ isSubtype_stop ?_)
  exact wpAny_pure (h _ (((Heap.SameBut.update ..).extBut.push _).push _))
theorem setNext_A {slot i : Nat} {Q : Option (Value × Nat) → Shared → Prop} (ho : s.heap.get? a = some o) (hd : o.data = .set es ep t) (hf : t.fits es.size = true) (hb : w.params.followText "set-order" = true)
   (h : Q ((((pickOrder (w.params.setOrder a ep) es).toList.map (·.2))[i]?).map fun v => (v, slot)) s) : wpAny (model prog w) A (setNext a slot i ep) Q E s := by
  unfold setNext
  refine wpAny_bind (wpAny_setState_of ho hd hf ?_)
  dsimp only
  refine wpAny_bind ?_
  unfold setsByText
  refine wpAny_bind (wpAny_askSetting (wpAny_pure ?_))
  have hb' : (Setting.mk (model prog w).prog (model prog w).w.params).params.followText "set-order" = true := hb
  rw [if_pos hb', if_neg (by simp)]
  refine wpAny_bind ?_
  unfold setWalk setsByText
  refine wpAny_bind (wpAny_setState_of ho hd hf ?_)
  dsimp only
  refine wpAny_bind (wpAny_bind (wpAny_askSetting (wpAny_pure ?_)))
  rw [if_pos hb']
  refine wpAny_bind (wpAny_askSetting (wpAny_pure (wpAny_pure ?_)))
  have e : Option.map (fun e : Int × Value => (e.2, slot)) (pickOrder (w.params.setOrder a ep) es)[i]? = (((pickOrder (w.params.setOrder a ep) es).toList.map (·.2))[i]?).map fun v => (v, slot) := by
    rw [List.getElem?_map, Option.map_map, Array.getElem?_toList]; rfl
  rw [← e] at h
  exact h
theorem setNext_C {slot i : Nat} {Q : Option (Value × Nat) → Shared → Prop} (ho : s.heap.get? a = some o) (hd : o.data = .set es ep t) (hf : t.fits es.size = true) (hb : w.params.followText "set-order" = false) (hled : t.led = true) (h1 : es.size = 1)
   (h : Q (match es[SetTable.below t.place slot]?, t.place[SetTable.below t.place slot]? with
     | some (_, x), some j => some (x, j + 1)
     | _, _ => none) s) : wpAny (model prog w) A (setNext a slot i ep) Q E s := by
  unfold setNext
  refine wpAny_bind (wpAny_setState_of ho hd hf ?_)
  dsimp only
  refine wpAny_bind ?_
  unfold setsByText
  refine wpAny_bind (wpAny_askSetting (wpAny_pure ?_))
  have hb' : ¬ (Setting.mk (model prog w).prog (model prog w).w.params).params.followText "set-order" = true := by show ¬ (w.params.followText "set-order" = true); rw [hb]; decide
  rw [if_neg hb']
  split
  · rename_i q
    have q : (!t.plain && decide (es.size > 1)) = true := q
    rw [h1] at q
    simp at q
  · refine wpAny_bind (m := (if (!t.led && !es.isEmpty) = true then unsupported "set:maker-not-led" else pure ())) ?_
    rw [if_neg (by rw [hled]; simp)]
    exact wpAny_pure (wpAny_pure h)
end
end Mine
end

section
open PySem PySem.W PySem.Calls PyProof.Rows
set_option Elab.async false
set_option maxRecDepth 100000
namespace Mine
abbrev ordO (ord : List Nat) : Obj := { cls := .type "tuple", data := .seq (ord.map fun i : Nat => rawInt i).toArray }
section
variable {prog : Program} {w : World} {A : Around} {E : Value → Shared → Prop} {s : Shared} {I a tup : Addr} {o : Obj} {es : Array (Int × Value)} {ep : Nat} {t : SetTable} {ord : List Nat}
theorem next_B {i j : Nat} {hs : Int} {v : Value} {Q : Option Value → Shared → Prop} (hI : s.heap.get? I = some (itO (.ref tup) i a es.size ep)) (ht : s.heap.get? tup = some (ordO ord)) (ho : s.heap.get? a = some o) (hd : o.data = .set es ep t) (hf : t.fits es.size = true)
   (hj : ord[i]? = some j) (hv : es[j]? = some (hs, v)) (h : ∀ h', h'.get? I = some (itO (.ref tup) (i + 1) a es.size ep) → Heap.SameBut I s.heap h' → Q (some v) { s with heap := h' }) : wpAny (model prog w) A (pyNext (.ref I)) Q E s := by
  have hT : s.TypeIs (.ref I) "set_iterator" := ⟨_, hI, rfl⟩
  unfold pyNext
  refine wpAny_bind (wpAny_attempt (wpAny_callSpecial?_slot (name := Str.ofString "__next__") hT slot_setiter_next (wpAny_call_entry slot_setiter_next hT entry_setiter_next ?_ (args_setiter_next _))))
  unfold Builtin.«set_iterator.__next__»
  refine wpAny_bind (wpAny_pure ?_)
  refine wpAny_bind (wpAny_fieldsOf hI rfl ?_)
  refine wpAny_bind (wpAny_setEntries_of ho hd hf ?_)
  rw [if_neg (by simp)]
  dsimp only
  refine wpAny_bind (wpAny_seqItems ht rfl ?_)
  dsimp only
  have e : (ord.map fun i : Nat => rawInt i).toArray[(i : Int).toNat]? = some (.int j 0) := by
    rw [Int.toNat_natCast, List.getElem?_toArray, List.getElem?_map, hj]; rfl
  rw [e]
  dsimp only
  refine wpAny_bind ?_
  unfold setNextDrawn
  refine wpAny_bind (wpAny_setState_of ho hd hf ?_)
  dsimp only
  rw [if_neg (by simp), Int.toNat_natCast, hv]
  refine wpAny_pure ?_
  refine wpAny_bind (wpAny_setField hI rfl (by simp) ?_)
  have hI3 := Heap.get?_update_self (Obj.mapFields (·.setIfInBounds 1 (rawInt ((i : Int) + 1)))) hI rfl
  exact wpAny_pure ⟨v, rfl, wpAny_pure (h _ hI3 (Heap.SameBut.update ..))⟩
theorem end_B {i : Nat} {Q : Option Value → Shared → Prop} (hh : A.handled = none) (hI : s.heap.get? I = some (itO (.ref tup) i a es.size ep)) (ht : s.heap.get? tup = some (ordO ord)) (ho : s.heap.get? a = some o) (hd : o.data = .set es ep t) (hf : t.fits es.size = true)
   (hj : ord[i]? = none) (h : ∀ h', Heap.ExtBut I s.heap h' → Q none { s with heap := h' }) : wpAny (model prog w) A (pyNext (.ref I)) Q E s := by
  have hT : s.TypeIs (.ref I) "set_iterator" := ⟨_, hI, rfl⟩
  unfold pyNext
  refine wpAny_bind (wpAny_attempt (wpAny_callSpecial?_slot (name := Str.ofString "__next__") hT slot_setiter_next (wpAny_call_entry slot_setiter_next hT entry_setiter_next ?_ (args_setiter_next _))))
  unfold Builtin.«set_iterator.__next__»
  refine wpAny_bind (wpAny_pure ?_)
  refine wpAny_bind (wpAny_fieldsOf hI rfl ?_)
  refine wpAny_bind (wpAny_setEntries_of ho hd hf ?_)
  rw [if_neg (by simp)]
  dsimp only
  refine wpAny_bind (wpAny_seqItems ht rfl ?_)
  dsimp only
  have e : (ord.map fun i : Nat => rawInt i).toArray[(i : Int).toNat]? = none := by
    rw [Int.toNat_natCast, List.getElem?_toArray, List.getElem?_map, hj]; rfl
  rw [e]
  dsimp only
  refine wpAny_bind (wpAny_setField hI rfl (by simp) ?_)
  have hI2 := Heap.get?_update_self (Obj.mapFields (·.setIfInBounds 0 (rawInt 0))) hI rfl
  refine wpAny_bind (wpAny_setField hI2 rfl (by simp) ?_)
  refine wpAny_bind ?_
  simp only [newExc, newTuple]
  refine wpAny_bind (wpAny_newObj_type ?_ (by size_fits))
  refine wpAny_bind (m := firstArgMember _ _) (wpAny_of_eq (a := Value.none) (by first | rfl | (simp only [firstArgMember]; rfl)) ?_)
  refine wpAny_newObj_type ?_ (by size_fits)
  simp only [raiseNew]
  refine wpAny_bind (wpAny_handled ?_)
  rw [show A.in1.handled = none from hh]
  refine wpAny_bind (wpAny_pure (wpAny_throw ?_))
  refine wpAny_bind (wpAny_isInstance (T := "StopIteration") (b := true) ⟨_, Heap.get?_push_size _ rfl, rfl⟩ isSubtype_stop ?_)
  exact wpAny_pure (h _ ((((Heap.SameBut.update ..).trans (Heap.SameBut.update ..)).extBut.push _).push _))
theorem iter_self {f : Value} {i n : Nat} {Q : Value → Shared → Prop} (hI : s.heap.get? I = some (itO f i a n ep)) (h : Q (.ref I) s) : wpAny (model prog w) A (pyIter (.ref I)) Q E s := by
  have hT : s.TypeIs (.ref I) "set_iterator" := ⟨_, hI, rfl⟩
  refine wpAny_pyIter_slot hT slot_setiter_iter (wpAny_call_entry slot_setiter_iter hT entry_setiter_iter ?_ (args_setiter_iter _))
  show wpAny _ _ (ret (.ref I)) _ _ s
  exact wpAny_pure ⟨_, rfl, "set_iterator", _, hT, slot_setiter_next.lookup, h⟩
end
theorem ext_keep {I : Addr} {wr : List Addr} {h h' : Heap} (hw : I ∈ wr) (x : Heap.ExtBut I h h') : ∀ b o, b ∉ wr → h.get? b = some o → h'.get? b = some o := fun b o hb e => x b o (fun q => hb (q ▸ hw)) e
section
variable {prog : Program} {w : World} {A : Around} (hh : A.handled = none) {I a tup : Addr} {o : Obj} {es : Array (Int × Value)} {ep : Nat} {t : SetTable} {ord : List Nat}
include hh
theorem walks_A (haI : a ≠ I) (hd : o.data = .set es ep t) (hf : t.fits es.size = true) (hb : w.params.followText "set-order" = true) :
    Walks prog w A I [I, a, tup] [I] ((pickOrder (w.params.setOrder a ep) es).toList.map (·.2)).length (fun i v => ((pickOrder (w.params.setOrder a ep) es).toList.map (·.2))[i]? = some v) (fun i h => h.get? I = some (itO (.int 0 0) i a es.size ep) ∧ h.get? a = some o) where
  sub := fun b hb => by simp at hb; simp [hb]
  frame := fun _ _ _ st hk => ⟨hk I (by simp) _ st.1, hk a (by simp) _ st.2⟩
  item := fun i s Q E hi st hQ => by
    have hx := List.getElem?_eq_getElem hi
    refine next_slot (slot := 0) (next := 0) st.1 st.2 hd hf (fun Q' E' hq => setNext_A st.2 hd hf hb (by rw [hx]; exact hq)) fun h' hI' hs' => ?_
    exact hQ _ h' s.toks hx ⟨hI', hs'.extBut _ _ haI st.2⟩ (ext_keep (by simp) hs'.extBut)
  done := fun s Q E st hQ => by
    refine end_slot (slot := 0) hh st.1 st.2 hd hf (fun Q' E' hq => setNext_A st.2 hd hf hb (by rw [List.getElem?_eq_none (Nat.le_refl _)]; exact hq)) fun h' hs' => ?_
    exact hQ h' s.toks (ext_keep (by simp) hs')
  self := fun i s Q E st hQ => iter_self st.1 hQ
theorem walks_B (haI : a ≠ I) (htI : tup ≠ I) (hd : o.data = .set es ep t) (hf : t.fits es.size = true) (hord : ∀ j ∈ ord, j < es.size) :
    Walks prog w A I [I, a, tup] [I] (ord.map fun j => (es.toList.map (·.2)).getD j .none).length (fun i v => (ord.map fun j => (es.toList.map (·.2)).getD j .none)[i]? = some v) (fun i h => h.get? I = some (itO (.ref tup) i a es.size ep) ∧ h.get? a = some o ∧ h.get? tup = some (ordO ord)) where
  sub := fun b hb => by simp at hb; simp [hb]
  frame := fun _ _ _ st hk => ⟨hk I (by simp) _ st.1, hk a (by simp) _ st.2.1, hk tup (by simp) _ st.2.2⟩
  item := fun i s Q E hi st hQ => by
    have hx := List.getElem?_eq_getElem hi
    rw [List.length_map] at hi
    have hj := hord ord[i] (List.getElem_mem hi)
    have he : es[ord[i]]? = some (es[ord[i]].1, es[ord[i]].2) := by rw [Array.getElem?_eq_getElem hj]
    have hv : (ord.map fun j => (es.toList.map (·.2)).getD j .none)[i]? = some es[ord[i]].2 := by
      rw [List.getElem?_map, List.getElem?_eq_getElem hi, Option.map_some, List.getD_eq_getElem?_getD, List.getElem?_map, Array.getElem?_toList, Array.getElem?_eq_getElem hj]
      rfl
    refine next_B st.1 st.2.2 st.2.1 hd hf (List.getElem?_eq_getElem hi) he fun h' hI' hs' => ?_
    exact hQ _ h' s.toks hv ⟨hI', hs'.extBut _ _ haI st.2.1, hs'.extBut _ _ htI st.2.2⟩ (ext_keep (by simp) hs'.extBut)
  done := fun s Q E st hQ => by
    refine end_B hh st.1 st.2.2 st.2.1 hd hf (by rw [List.length_map]; exact List.getElem?_eq_none (Nat.le_refl _)) fun h' hs' => ?_
    exact hQ h' s.toks (ext_keep (by simp) hs')
  self := fun i s Q E st hQ => iter_self st.1 hQ
omit hh in
theorem arr_one {α : Type} {xs : Array α} (h : xs.size = 1) : ∃ x, xs = #[x] := by
  obtain ⟨l⟩ := xs
  match l, h with
  | [x], _ => exact ⟨x, rfl⟩
omit hh in
theorem below_one {xs : Array Nat} {p j : Nat} (h : xs = #[p]) : SetTable.below xs j = if p < j then 1 else 0 := by
  subst h
  unfold SetTable.below
  show SetTable.below.go #[p] j 1 0 1 = _
  unfold SetTable.below.go
  simp only [Nat.lt_one_iff, if_true]
  show (if (#[p] : Array Nat).getD 0 j < j then SetTable.below.go #[p] j 0 1 1 else SetTable.below.go #[p] j 0 0 0) = _
  have e : (#[p] : Array Nat).getD 0 j = p := rfl
  rw [e]
  split <;> rfl
theorem walks_C (haI : a ≠ I) (hd : o.data = .set es ep t) (hf : t.fits es.size = true) (hb : w.params.followText "set-order" = false) (hled : t.led = true) (h1 : es.size = 1) :
    Walks prog w A I [I, a, tup] [I] (es.toList.map (·.2)).length (fun i v => (es.toList.map (·.2))[i]? = some v) (fun i h => h.get? I = some (itO (.int (if i = 0 then 0 else t.place.getD 0 0 + 1 : Nat) 0) i a es.size ep) ∧ h.get? a = some o) where
  sub := fun b hb => by simp at hb; simp [hb]
  frame := fun _ _ _ st hk => ⟨hk I (by simp) _ st.1, hk a (by simp) _ st.2⟩
  item := fun i s Q E hi st hQ => by
    have hi0 : i = 0 := by
      rw [List.length_map, Array.length_toList] at hi
      omega
    subst hi0
    obtain ⟨x, hx⟩ := arr_one h1
    obtain ⟨p, hp⟩ := arr_one (xs := t.place) (by
      simp only [SetTable.fits, Bool.and_eq_true, beq_iff_eq] at hf
      rw [hf.1, h1])
    have hv : (es.toList.map (·.2))[0]? = some x.2 := by rw [hx]; rfl
    refine next_slot (slot := 0) (next := p + 1) (v := x.2) st.1 st.2 hd hf (fun Q' E' hq => setNext_C st.2 hd hf hb hled h1 ?_) fun h' hI' hs' => ?_
    · rw [below_one hp, if_neg (Nat.not_lt_zero _), hx, hp]
      exact hq
    · refine hQ _ h' s.toks hv ⟨?_, hs'.extBut _ _ haI st.2⟩ (ext_keep (by simp) hs'.extBut)
      rw [hI', hp]
      rfl
  done := fun s Q E st hQ => by
    obtain ⟨x, hx⟩ := arr_one h1
    obtain ⟨p, hp⟩ := arr_one (xs := t.place) (by
      simp only [SetTable.fits, Bool.and_eq_true, beq_iff_eq] at hf
      rw [hf.1, h1])
    have hl : (es.toList.map (·.2)).length = 1 := by rw [List.length_map, Array.length_toList, h1]
    rw [hl] at st
    rw [if_neg (by decide)] at st
    refine end_slot hh st.1 st.2 hd hf (fun Q' E' hq => setNext_C st.2 hd hf hb hled h1 ?_) fun h' hs' => ?_
    · have e : t.place.getD 0 0 = p := by rw [hp]; rfl
      rw [e, below_one hp, if_pos (Nat.lt_succ_self _), hx]
      exact hq
    · exact hQ h' s.toks (ext_keep (by simp) hs')
  self := fun i s Q E st hQ => iter_self st.1 hQ
end
theorem strs_pick {vs : List Value} {l : List (List Nat)} (h : StrsAre vs (l.map S)) : ∀ (ord : List Nat), (∀ j ∈ ord, j < vs.length) → StrsAre (ord.map fun j => vs.getD j .none) ((ord.map fun j => l.getD j []).map S)
  | [], _ => .nil
  | j :: ord, hj => by
    have hlen := strsAre_len h
    have h0 := hj j (List.mem_cons_self ..)
    obtain ⟨t, ht⟩ := strs_item h (i := j) (by omega)
    rw [List.map_cons, List.map_cons, List.map_cons, List.getD_eq_getElem?_getD, ht, List.getD_eq_getElem?_getD, List.getElem?_eq_getElem (by omega)]
    exact .cons _ _ (strs_pick h ord fun k hk => hj k (List.mem_cons_of_mem _ hk))
theorem range_pick (l : List (List Nat)) : ((List.range l.length).map fun j => l.getD j []) = l := by
  refine List.ext_getElem? fun i => ?_
  rw [List.getElem?_map]
  by_cases hi : i < l.length
  · rw [List.getElem?_range hi, List.getElem?_eq_getElem hi]
    simp [List.getD_eq_getElem?_getD, hi]
  · rw [List.getElem?_eq_none (by simpa using hi), List.getElem?_eq_none (by omega)]; rfl
section
variable {prog : Program} {w : World} {A : Around} {E : Value → Shared → Prop} {s : Shared} {a : Addr} {ks : List (List Nat)}
/-- iter(a), a a set of strs: its items, in some order -/
theorem pyIter_set {Q : Value → Shared → Prop} (hS : SSet prog w s.heap a ks) (hne : ks ≠ []) (hks : ks.length ≤ 5000)
   (h : ∀ (I tup : Addr) (vs : List Value) (l : List (List Nat)) (h' : Heap) d' St, (∀ A' : Around, A'.handled = none → Walks prog w A' I [I, a, tup] [I] vs.length (fun i v => vs[i]? = some v) St) → St 0 h' → StrsAre vs (l.map S) → l.Perm ks → (∀ b o, s.heap.get? b = some o → h'.get? b = some o) →
     s.heap.objs.size ≤ I → I < h'.objs.size → (tup = a ∨ s.heap.objs.size ≤ tup) → tup < h'.objs.size → Q (.ref I) { s with heap := h', drawn := d' }) :
   wpAny (model prog w) A (pyIter (.ref a)) Q E s := by
  obtain ⟨o, es, ep, t, l, ho, hex, hd, hel, hv, hp, hn, hf, hled, hpl⟩ := hS
  have hT : s.TypeIs (.ref a) "set" := ⟨o, ho, hex.1⟩
  have ha : a < s.heap.objs.size := Heap.lt_size ho
  have hlen : es.size = ks.length := by
    have := strsAre_len hv
    rw [List.length_map, Array.length_toList] at this
    rw [this, hp.length_eq]
  have hpos : 0 < es.size := by rw [hlen]; exact List.length_pos_iff.mpr hne
  have hplf : t.plain = false := by
    cases q : t.plain with
    | false => rfl
    | true => rw [hpl q] at hpos; exact absurd hpos (Nat.lt_irrefl _)
  refine wpAny_pyIter_slot hT PySem.F.slot_set_iter (wpAny_call_entry PySem.F.slot_set_iter hT entry_set_iter ?_ (args_set_iter _))
  unfold Builtin.«frozenset.__iter__»
  refine wpAny_bind (wpAny_pure ?_)
  refine wpAny_bind ?_
  unfold Builtin.Frozenset.sizeOf
  refine wpAny_bind (wpAny_setEntries_of ho hd hf (wpAny_pure ?_))
  refine wpAny_bind ?_
  unfold setDrawn setsByText
  refine wpAny_bind (wpAny_setState_of ho hd hf ?_)
  dsimp only
  refine wpAny_bind (wpAny_bind (wpAny_askSetting (wpAny_pure ?_)))
  refine wpAny_pure ?_
  cases hb : w.params.followText "set-order" with
  | true =>
    rw [if_neg (show ¬ ((!(Setting.mk (model prog w).prog (model prog w).w.params).params.followText "set-order" && _) = true) by show ¬ ((!(w.params.followText "set-order") && _) = true); rw [hb]; simp)]
    refine wpAny_bind (wpAny_pure ?_)
    refine wpAny_bind (wpAny_setEpoch_of ho hd hf ?_)
    refine wpAny_bind ?_
    unfold newFields
    refine wpAny_newObj_type ?_
    have hI : (s.heap.push (itO (.int 0 0) 0 a es.size ep)).get? s.heap.objs.size = some (itO (.int 0 0) 0 a es.size ep) := Heap.get?_push_size _ rfl
    refine wpAny_pure ⟨_, rfl, "set_iterator", _, ⟨_, hI, rfl⟩, slot_setiter_next.lookup, ?_⟩
    have hpm := pickOrder_perm (w.params.setOrder a ep) es
    obtain ⟨l', h1, h2⟩ := strs_perm hpm hv
    exact h s.heap.objs.size a _ l' _ s.drawn _ (fun A' hA' => walks_A hA' (Nat.ne_of_lt ha) hd hf hb) ⟨hI, Heap.get?_push_of_some _ ho⟩ h1 (h2.trans hp) (fun b o e => Heap.get?_push_of_some _ e) (Nat.le_refl _) (by rw [Heap.size_push]; exact Nat.lt_succ_self _) (.inl rfl) (by rw [Heap.size_push]; exact Nat.lt_succ_of_lt ha)
  | false =>
    by_cases h1 : es.size > 1
    · have hq : (!(w.params.followText "set-order") && (!t.plain && decide (es.size > 1))) = true := by rw [hb, hplf, decide_eq_true h1]; rfl
      split
      case isFalse q => exact absurd hq q
      rename_i q
      refine wpAny_bind (wpAny_drawOrder es.size (List.range es.size) _ List.length_range.symm fun ord d' hord => ?_)
      have hsz : es.size ≤ 5000 := by omega
      refine wpAny_bind (wpAny_newTuple ?_ (by rw [List.length_map, hord.length_eq, List.length_range]; simp only [sizeLine]; omega))
      refine wpAny_bind (wpAny_setEpoch_of (Heap.get?_push_of_some _ ho) hd hf ?_)
      refine wpAny_bind ?_
      unfold newFields
      refine wpAny_newObj_type ?_
      have hz1 : (s.heap.push (ordO ord)).objs.size = s.heap.objs.size + 1 := Heap.size_push ..
      have hz2 : ((s.heap.push (ordO ord)).push (itO (.ref s.heap.objs.size) 0 a es.size ep)).objs.size = s.heap.objs.size + 1 + 1 := by rw [Heap.size_push, hz1]
      have htup : (s.heap.push (ordO ord)).get? s.heap.objs.size = some (ordO ord) := Heap.get?_push_size _ rfl
      have hI : ((s.heap.push (ordO ord)).push (itO (.ref s.heap.objs.size) 0 a es.size ep)).get? (s.heap.push (ordO ord)).objs.size = some (itO (.ref s.heap.objs.size) 0 a es.size ep) := Heap.get?_push_size _ rfl
      refine wpAny_pure ⟨_, rfl, "set_iterator", _, ⟨_, hI, rfl⟩, slot_setiter_next.lookup, ?_⟩
      have hj : ∀ j ∈ ord, j < es.size := fun j hj => List.mem_range.mp (hord.mem_iff.mp hj)
      have hvl : (es.toList.map (·.2)).length = es.size := by rw [List.length_map, Array.length_toList]
      have hll : l.length = es.size := by rw [← strsAre_len hv, hvl]
      have h2 := strs_pick hv ord fun j q => by rw [hvl]; exact hj j q
      have h3 : (ord.map fun j => l.getD j []).Perm l := by
        have := hord.map fun j => l.getD j []
        rw [← hll, range_pick] at this
        exact this
      exact h (s.heap.push (ordO ord)).objs.size s.heap.objs.size _ _ _ d' _ (fun A' hA' => walks_B (ord := ord) hA' (by rw [hz1]; exact Nat.ne_of_lt (Nat.lt_succ_of_lt ha)) (by rw [hz1]; exact Nat.ne_of_lt (Nat.lt_succ_self _)) hd hf hj) ⟨hI, Heap.get?_push_of_some _ (Heap.get?_push_of_some _ ho), Heap.get?_push_of_some _ htup⟩ h2 (h3.trans hp)
        (fun b o e => Heap.get?_push_of_some _ (Heap.get?_push_of_some _ e)) (by rw [hz1]; exact Nat.le_succ _) (by rw [hz1]; exact hz2 ▸ Nat.lt_succ_self _) (.inr (Nat.le_refl _)) (hz2 ▸ Nat.lt_succ_of_lt (Nat.lt_succ_self _))
    · have h1' : es.size = 1 := by omega
      have hq : ¬ ((!(w.params.followText "set-order") && (!t.plain && decide (es.size > 1))) = true) := by rw [decide_eq_false h1]; simp
      split
      case isTrue q => exact absurd q hq
      refine wpAny_bind (wpAny_pure ?_)
      refine wpAny_bind (wpAny_setEpoch_of ho hd hf ?_)
      refine wpAny_bind ?_
      unfold newFields
      refine wpAny_newObj_type ?_
      have hI : (s.heap.push (itO (.int 0 0) 0 a es.size ep)).get? s.heap.objs.size = some (itO (.int 0 0) 0 a es.size ep) := Heap.get?_push_size _ rfl
      refine wpAny_pure ⟨_, rfl, "set_iterator", _, ⟨_, hI, rfl⟩, slot_setiter_next.lookup, ?_⟩
      exact h s.heap.objs.size a _ l _ s.drawn _ (fun A' hA' => walks_C hA' (Nat.ne_of_lt ha) hd hf hb (by rw [hled, hb]; rfl) h1') ⟨hI, Heap.get?_push_of_some _ ho⟩ hv hp (fun b o e => Heap.get?_push_of_some _ e) (Nat.le_refl _) (by rw [Heap.size_push]; exact Nat.lt_succ_self _) (.inl rfl) (by rw [Heap.size_push]; exact Nat.lt_succ_of_lt ha)
end
end Mine
end

section
open PySem PySem.W PySem.Calls PyProof.Rows
set_option Elab.async false
set_option maxRecDepth 100000
namespace Mine
theorem set_len : typeLookup (.type "set") "__len__" = pure (some (.builtin "set.__len__")) := by rw [typeLookup_type, builtinLookup_eq_fast]; kernel_rfl
section
variable {prog : Program} {w : World} {A : Around} {E : Value → Shared → Prop} {s : Shared} {a : Addr} {ks : List (List Nat)}
theorem set_hint {Q : Bool → Shared → Prop} (hT : s.TypeIs (.ref a) "set") (h : Q false s) : wpAny (model prog w) A (Builtin.List.listLengthHint (.ref a)) Q E s := by
  unfold Builtin.List.listLengthHint
  refine wpAny_bind (wpAny_specialOf hT set_len ?_)
  generalize hid : ("set.__len__" : String) = id0
  wp_delta
  rw [show splitId id0 = some ("set", "__len__") from by subst hid; decide +kernel]
  subst hid
  refine wpAny_bind (wpAny_isInstance (T := "set") (b := true) hT (by rw [isSubtype_type]; kernel_rfl) ?_)
  refine wpAny_ite_split (fun hab => absurd hab (by decide)) (fun _ => ?_)
  refine wpAny_ite_split (fun _ => ?_) (fun hab => absurd (by decide +kernel) hab)
  refine wpAny_bind (wpAny_typeOf hT ?_)
  exact wpAny_pure h
theorem SSet.type {h : Heap} (x : SSet prog w h a ks) : ∃ o, h.get? a = some o ∧ o.cls = .type "set" := by
  obtain ⟨o, es, ep, t, l, ho, hex, _⟩ := x
  exact ⟨o, ho, hex.1⟩
theorem of_items {vs : List Value} {acc : Array Value} {n : Nat} (h : ItemsOf (fun i v => vs[i]? = some v) acc n) (hn : n = vs.length) : acc.toList = vs := by
  refine List.ext_getElem? fun i => ?_
  rw [Array.getElem?_toList]
  cases hv : acc[i]? with
  | some v => exact (h.2 i v hv).symm
  | none =>
    have := Array.getElem?_eq_none_iff.mp hv
    rw [List.getElem?_eq_none (by have := h.1; omega)]
/-- collect, over a set of strs -/
theorem collect_set {Q : List Value → Shared → Prop} (hh : A.handled = none) (hS : SSet prog w s.heap a ks) (hne : ks ≠ []) (hks : ks.length ≤ 5000)
   (h : ∀ (vs : List Value) (l : List (List Nat)) (h' : Heap) tk d', StrsAre vs (l.map S) → l.Perm ks → (∀ b o, s.heap.get? b = some o → h'.get? b = some o) → Q vs { s with heap := h', toks := tk, drawn := d' }) :
   wpAny (model prog w) A (collect (.ref a)) Q E s := by
  obtain ⟨oa, hoa, hca⟩ := hS.type
  have hta : a < s.heap.objs.size := Heap.lt_size hoa
  have hSa : s.heap.objs.size ≠ a := Nat.ne_of_gt hta
  unfold collect
  refine wpAny_bind (wpAny_runValue (codeAny_builtin PySem.F.entry_proto_collect ?_))
  rw [Around.under_plainId PySem.F.plain_proto_collect _]
  show wpAny _ A.in1 (newList [] >>= fun l => again (.builtin "list.__iadd__" ⟨[l, .ref a], []⟩)) _ _ s
  refine wpAny_bind (wpAny_newObj_type ?_)
  refine wpAny_pure ⟨plainId_quiet PySem.F.plain_list_iadd _, codeAny_builtin PySem.F.entry_list_iadd ?_⟩
  rw [Around.under_plainId PySem.F.plain_list_iadd _]
  show wpAny _ A.in1 (Builtin.List.listExtendWith (.ref s.heap.objs.size) (.ref a) (.ref s.heap.objs.size)) _ _ _
  have hT : Shared.TypeIs { s with heap := s.heap.push { cls := .type "list", data := .seq ([] : List Value).toArray } } (.ref a) "set" := ⟨oa, Heap.get?_push_of_some _ hoa, hca⟩
  unfold Builtin.List.listExtendWith
  refine wpAny_bind (wpAny_typeOf hT ?_)
  have h1 : Builtin.List.listSameRef (.ref s.heap.objs.size) (.ref a) = false := by simp [Builtin.List.listSameRef, hSa]
  have h2 : (Value.type "set" == Value.type "list") = false := by decide
  have h3 : (Value.type "set" == Value.type "tuple") = false := by decide
  simp only [h1, h2, h3, Bool.or_false, Bool.false_eq_true, if_false]
  refine wpAny_bind (pyIter_set (hS.keeps fun o e => Heap.get?_push_of_some _ e) hne hks fun I tup vs l h' d' St W st hv hp old hI hI2 htup _ => ?_)
  have hSn : (s.heap.push { cls := .type "list", data := .seq ([] : List Value).toArray }).objs.size = s.heap.objs.size + 1 := Heap.size_push ..
  have hS₀ : (s.heap.push { cls := .type "list", data := .seq ([] : List Value).toArray }).get? s.heap.objs.size = some { cls := .type "list", data := .seq ([] : List Value).toArray } := Heap.get?_push_size _ rfl
  have hS₁ := old _ _ hS₀
  refine wpAny_bind (wpAny_holding (set_hint ⟨oa, old _ _ (Heap.get?_push_of_some _ hoa), hca⟩ ?_))
  refine wpAny_ite_split (fun _ => ?_) (fun hab => absurd (by decide +kernel) hab)
  refine wpAny_bind (wpAny_rule ?_)
  refine wpAny_bind ?_
  show wpAny _ A.in1 (updateSeq s.heap.objs.size (·.push .none) >>= fun _ => updateSeq s.heap.objs.size (·.pop)) _ _ _
  refine wpAny_bind (wpAny_updateSeq hS₁ rfl ?_)
  have hS₂ := Heap.get?_update_self (Obj.mapSeq (·.push Value.none)) hS₁ rfl
  refine wpAny_updateSeq (hz := by seq_fits) hS₂ rfl ?_
  have hS₃ := Heap.get?_update_self (Obj.mapSeq (·.pop)) hS₂ rfl
  have hSI : s.heap.objs.size ≠ I := Nat.ne_of_lt (by rw [hSn] at hI; exact hI)
  have hSt : s.heap.objs.size ≠ tup := by
    rcases htup with q | q
    · rw [q]; exact hSa
    · exact Nat.ne_of_lt (by rw [hSn] at q; exact q)
  have hSf : s.heap.objs.size ∉ [I, a, tup] := by simp only [List.mem_cons, List.not_mem_nil, or_false, not_or]; exact ⟨hSI, hSa, hSt⟩
  have oth : ∀ b o, b ≠ s.heap.objs.size → h'.get? b = some o → ((h'.update s.heap.objs.size (Obj.mapSeq (·.push Value.none))).update s.heap.objs.size (Obj.mapSeq (·.pop))).get? b = some o :=
    fun b o hb e => (Heap.get?_update_other _ _ (Ne.symm hb)).trans ((Heap.get?_update_other _ _ (Ne.symm hb)).trans e)
  have Wk := W A.in1 hh
  have hvl : vs.length ≤ sizeLine := by
    have := strsAre_len hv
    have := hp.length_eq
    unfold sizeLine
    omega
  refine wpAny_pure ⟨plainId_quiet PySem.F.plain_extend_loop _, codeAny_extend_loopS Wk.toS hvl _ hSf _ vs.length 0 _ _ _ (Nat.sub_zero _) (Nat.zero_le _) (Wk.frame 0 _ _ st fun b hb o e => oth b o (fun q => hSf (q ▸ hb)) e) hS₃ (ItemsOf.nil _) fun s' acc' c' hm hS' hacc => ?_⟩
  rw [Moved.eq_with hm]
  show wpAny _ A (load s.heap.objs.size >>= _) _ _ _
  refine wpAny_bind (wpAny_load hS' ?_)
  refine wpAny_pure ?_
  rw [of_items hacc rfl]
  refine h vs l s'.heap s'.toks d' hv hp fun b o e => ?_
  have hb : b ≠ s.heap.objs.size := Nat.ne_of_lt (Heap.lt_size e)
  refine hm.heap b o (fun q => ?_) (oth b o hb (old _ _ (Heap.get?_push_of_some _ e)))
  rcases List.mem_cons.mp q with q | q
  · exact hb q
  · rw [List.mem_singleton.mp q] at e
    exact absurd (Heap.lt_size e) (Nat.not_lt.mpr (Nat.le_trans (by rw [hSn]; exact Nat.le_succ _) hI))
end
end Mine
end

section
open PySem PySem.W PySem.Calls PyProof.Rows
set_option Elab.async false
set_option maxRecDepth 100000
namespace Mine
section
variable {prog : Program} {w : World} {A : Around} {s : Shared} {g : Heap} {L : Addr} {m : PySem.Str → Option Value} {led : List (Addr × Obj)}
/-- sorted, once the strs are collected -/
theorem sorted_tail {Q E : Value → Shared → Prop} {x : Value} {ks : List (List Nat)} (h64 : ks.length < 64) (F : Fr g L s.heap m) (N : News g L s.heap led)
   (hc : ∀ (Q' : List Value → Shared → Prop), (∀ (vs : List Value) (l : List (List Nat)) (h' : Heap) tk d', StrsAre vs (l.map S) → l.Perm ks → (∀ b o, s.heap.get? b = some o → h'.get? b = some o) → Q' vs { s with heap := h', toks := tk, drawn := d' }) → wpAny (model prog w) A.in1 (collect x) Q' E s)
   (k : ∀ D vs' (W : List (List Nat)) n h' tk d', Fr g L h' m → News g L h' ((D, listOf (List.toArray vs') n) :: led) → (∀ q ∈ led, q.1 < D) → StrsAre vs' (W.map S) → W.Perm ks → (W.Pairwise fun a b => ¬ b < a) → Q (.ref D) { s with heap := h', toks := tk, drawn := d' }) :
   wpAny (model prog w) A (call (.builtin "sorted") [x]) Q E s := by
  refine Calls.call_function_entry kind_sorted plain_sorted entry_sorted (args_sorted1 _) ?_
  unfold Builtin.«sorted»
  refine wpAny_bind (m := checkCount "sorted" 1 1 _) (wpAny_pure ?_)
  refine wpAny_bind (hc _ fun vs l h₁ tk₁ d₁ hS hp hk => ?_)
  have hlen : vs.length < 64 := by
    have h1 := strsAre_len hS
    have h2 := hp.length_eq
    omega
  have F₁ : Fr g L h₁ m := F.kept hk
  have N₁ : News g L h₁ led := fun q hq => ⟨hk _ _ (N q hq).1, (N q hq).2⟩
  refine wpAny_bind (wpAny_newList ?_)
  have hoL : (h₁.push (seqObj "list" vs.toArray 0)).get? h₁.objs.size = some (seqObj "list" vs.toArray 0) := Heap.get?_push_size _ rfl
  refine wpAny_bind (wpAny_holding (wpAny_call_entry slot_list_sort ⟨_, hoL, rfl⟩ entry_list_sort (list_sort_treeK strKind_oneLt hoL hS.keysOf (fun v₁ v₂ rest e => keyKind_strs (by rw [← e]; exact hS)) hlen fun st' a1 a2 => ⟨_, rfl, ?_⟩) (args_list_sort _)))
  obtain ⟨ss', h1, h2, h3⟩ := sorted_out_str hS a1 a2
  obtain ⟨e, he⟩ := sortedHeap_at (out := (arrOf st').map (·.2)) hoL
  have old : ∀ b o, h₁.get? b = some o → (sortedHeap (h₁.push (seqObj "list" vs.toArray 0)) h₁.objs.size vs ((arrOf st').map (·.2))).get? b = some o := fun b o hb => by
    rw [sortedHeap_old (Nat.ne_of_lt (Heap.lt_size hb)) (by rw [size_push']; exact Nat.lt_succ_of_lt (Heap.lt_size hb)), Heap.get?_push_ne _ _ _ (Nat.ne_of_lt (Heap.lt_size hb))]
    exact hb
  refine wpAny_pure ⟨_, rfl, ?_⟩
  obtain ⟨W, rfl, hW⟩ := perm_S h2
  exact k h₁.objs.size ((arrOf st').map (·.2)).toList W e _ tk₁ d₁ (F₁.kept old) (by rw [Array.toArray_toList]; exact N₁.kept_cons F₁ old (Nat.le_refl _) he) (fun q hq => Heap.lt_size (N₁ q hq).1) h1 (hW.trans hp) (sortedS_pair h3)

/-- a set object of these strs -/
def SObj (prog : Program) (w : World) (o : Obj) (ks : List (List Nat)) : Prop := ∀ (h : Heap) (a : Addr), h.get? a = some o → SSet prog w h a ks
theorem SSet.obj {h : Heap} {a : Addr} {ks : List (List Nat)} (x : SSet prog w h a ks) : ∃ o, h.get? a = some o ∧ SObj prog w o ks := by
  obtain ⟨o, es, ep, t, l, ho, r⟩ := x
  exact ⟨o, ho, fun h a e => ⟨o, es, ep, t, l, e, r⟩⟩
theorem SSet.nodup {h : Heap} {a : Addr} {ks : List (List Nat)} (x : SSet prog w h a ks) : ks.Nodup := by
  obtain ⟨o, es, ep, t, l, ho, _, _, _, _, _, hn, _⟩ := x
  exact hn
/-- set(list of strs) -/
theorem set_N {Q E : Value → Shared → Prop} {l : Addr} {vs : List Value} {nl : Nat} {ws : List (List Nat)} (hh : A.handled = none) (F : Fr g L s.heap m) (N : News g L s.heap led) (hl : (l, listOf vs.toArray nl) ∈ led) (hS : StrsAre vs (ws.map S)) (hb : ws.length + 1 < scanBound)
   (k : ∀ D o ks h' tk, Fr g L h' m → News g L h' ((D, o) :: led) → (∀ q ∈ led, q.1 < D) → SObj prog w o ks → ks.Nodup → (∀ x, x ∈ ks ↔ x ∈ ws) → Q (.ref D) { s with heap := h', toks := tk }) :
   wpAny (model prog w) A (call (.type "set") [.ref l]) Q E s := by
  refine set_of_list hh (PySem.IsL.isList (n := nl) (N.get hl)) hS hb fun h' tk ks hs hm old => ?_
  obtain ⟨o, ho, hO⟩ := hs.obj
  exact k s.heap.objs.size o ks h' tk (F.kept old) (N.kept_cons F old (Nat.le_refl _) ho) (fun q hq => Heap.lt_size (N q hq).1) hO hs.nodup hm
/-- sorted(set of strs) -/
theorem sortedSet_N {Q E : Value → Shared → Prop} {a : Addr} {o : Obj} {ks : List (List Nat)} (hh : A.handled = none) (F : Fr g L s.heap m) (N : News g L s.heap led) (ha : (a, o) ∈ led) (hO : SObj prog w o ks) (hne : ks ≠ []) (h64 : ks.length < 64)
   (k : ∀ D vs' (W : List (List Nat)) n h' tk d', Fr g L h' m → News g L h' ((D, listOf (List.toArray vs') n) :: led) → (∀ q ∈ led, q.1 < D) → StrsAre vs' (W.map S) → W.Perm ks → (W.Pairwise fun a b => ¬ b < a) → Q (.ref D) { s with heap := h', toks := tk, drawn := d' }) :
   wpAny (model prog w) A (call (.builtin "sorted") [.ref a]) Q E s :=
  sorted_tail h64 F N (fun Q' h => collect_set (A := A.in1) hh (hO _ _ (N.get ha)) hne (by omega) h) k
/-- sorted(list of strs) -/
theorem sortedList_N {Q E : Value → Shared → Prop} {l : Addr} {vs : List Value} {nl : Nat} {ws : List (List Nat)} (F : Fr g L s.heap m) (N : News g L s.heap led) (hl : (l, listOf vs.toArray nl) ∈ led) (hS : StrsAre vs (ws.map S)) (h64 : ws.length < 64)
   (k : ∀ D vs' (W : List (List Nat)) n h' tk d', Fr g L h' m → News g L h' ((D, listOf (List.toArray vs') n) :: led) → (∀ q ∈ led, q.1 < D) → StrsAre vs' (W.map S) → W.Perm ws → (W.Pairwise fun a b => ¬ b < a) → Q (.ref D) { s with heap := h', toks := tk, drawn := d' }) :
   wpAny (model prog w) A (call (.builtin "sorted") [.ref l]) Q E s := by
  refine sorted_tail h64 F N (fun Q' h => ?_) k
  have hlen := strsAre_len hS
  obtain ⟨ol, hol, hcl, n, hdl⟩ := PySem.IsL.isList (n := nl) (N.get hl)
  exact wpAny_collect_seq l (.inl rfl) hol hcl hdl (fun h' old => h vs ws h' s.toks s.drawn hS (.refl _) old) (by rw [List.size_toArray]; unfold sizeLine; omega)
end
end Mine
end

section
open PySem PySem.W PyProof.Rows
set_option Elab.async false
set_option maxRecDepth 100000
namespace Mine
def StrTo (f : List Nat → List Nat) (v y : Value) : Prop := ∃ z t t', v = .str (S z) t ∧ y = .str (S (f z)) t'
theorem paired_strs {f : List Nat → List Nat} : ∀ {vs ys : List Value} {l : List (List Nat)}, Paired (StrTo f) vs ys → StrsAre vs (l.map S) → StrsAre ys ((l.map f).map S) := by
  intro vs ys l hp
  induction hp generalizing l with
  | nil =>
    intro h
    cases l with
    | nil => exact .nil
    | cons _ _ => cases h
  | cons hab _ ih =>
    intro h
    obtain ⟨y, r, t, rfl, e, h⟩ := strs_inv h
    obtain ⟨z, t1, t2, e1, rfl⟩ := hab
    rw [e1] at e
    injection e with e2
    rw [S_inj e2]
    exact .cons _ _ (ih h)
section
variable {prog : Program} {w : World} {A : Around} {E : Value → Shared → Prop} {s : Shared} {env : Env} {h₀ : Heap} {L : Addr}
/-- what a comprehension over a set of strs needs -/
def SetGo (prog : Program) (w : World) (A : Around) (env : Env) (h₀ : Heap) (L : Addr) (scope : Scope) (cl : List (PySem.Str × Addr)) (x : PySem.Str) (elt : Expr) (f : List Nat → List Nat) (Q : Value → Shared → Prop) (xv : Value) (s₁ : Shared) : Prop :=
  ∃ (a : Addr) (o : Obj) (ks : List (List Nat)) (m : PySem.Str → Option Value) (led : List (Addr × Obj)), xv = .ref a ∧ Fr h₀ L s₁.heap m ∧ News h₀ L s₁.heap led ∧ (a, o) ∈ led ∧ SObj prog w o ks ∧ ks ≠ [] ∧ ks.length ≤ 5000 ∧
   (∀ C z t s₃ m₃ E', z ∈ ks → s₃.heap.Ns C m₃ → m₃ x = some (.str (S z) t) → wpAny (model prog w) A (eval elt (compEnvC scope cl C env)) (fun y s₄ => (∃ t, y = .str (S (f z)) t) ∧ Keeps s₃ s₄) E' s₃) ∧
   (∀ D ys (l : List (List Nat)) n h' tk d', Fr h₀ L h' m → News h₀ L h' ((D, listOf (List.toArray ys) n) :: led) → (∀ q ∈ led, @Ne Nat q.1 D) → StrsAre ys ((l.map f).map S) → l.Perm ks → Q (.ref D) { s₁ with heap := h', toks := tk, drawn := d' })
theorem comp_set {x : PySem.Str} {px : Pos} {scope : Scope} {cl : List (PySem.Str × Addr)} {pos : Pos} {elt iter : Expr} {Q : Value → Shared → Prop} {m₀ : PySem.Str → Option Value} (f : List Nat → List Nat) (_F : Fr h₀ L s.heap m₀)
   (hclos : closureFor scope env = pure cl) (hcell : ∀ y ∈ scope.names, y.2 ≠ .cell) (hkind : scope.kind = .function)
   (hnames : ∀ y ∈ scope.names, y.2 = .local → scope.names.lookup y.1 = some .local) (hx : scope.names.lookup x = some .local) (hh : A.handled = none)
   (h : wpAny (model prog w) A (eval iter env) (SetGo prog w A env h₀ L scope cl x elt f Q) E s)
   (hs : ∀ x, foldedSetIterable iter env x = pure x := by intro _; rfl) :
   wpAny (model prog w) A (eval (.ListComp elt [⟨.Name x px, iter, [], 0⟩] scope pos) env) Q E s := by
  refine wpAny_ListComp_free (fun _ => true) (StrTo f) hclos hcell hkind hnames hx (wpAny_mono h (fun xv s₁ h₁ => ?_) fun _ _ e => e) hs
  obtain ⟨a, o, ks, m, led, rfl, F, N, ha, hO, hne, hks, helt, hQ⟩ := h₁
  refine pyIter_set (hO _ _ (N.get ha)) hne hks fun I tup vs l h' d' St W st hv hp old hI hI2 htup htup2 => ?_
  have hvl : vs.length = l.length := strsAre_len hv
  have hpl := hp.length_eq
  have haS : a < s₁.heap.objs.size := Heap.lt_size (N.get ha)
  have hge : s₁.heap.objs.size ≤ h'.objs.size := Nat.le_trans hI (Nat.le_of_lt hI2)
  have hI' : ∀ b o, s₁.heap.get? b = some o → b ∉ [I] := fun b o e q => by
    rw [List.mem_singleton.mp q] at e
    exact absurd (Heap.lt_size e) (Nat.not_lt.mpr hI)
  refine ⟨I, [I, a, tup], [I], vs.length, _, St, rfl, W A hh, by unfold sizeLine; omega, st, ?_, ⟨?_, ?_⟩, ?_⟩
  · intro b hb
    simp only [List.mem_cons, List.not_mem_nil, or_false] at hb
    rcases hb with rfl | rfl | rfl
    · exact hI2
    · exact Nat.lt_of_lt_of_le haS hge
    · exact htup2
  · exact fun C i v s₃ m₃ E' hC hv' hn hm hk htk => wpAny_tests_nil ⟨rfl, _, _, rfl, fun _ _ e => e⟩
  · intro C i v s₃ m₃ E' hC hv' _ hn hm hk htk
    have hi : i < l.length := by
      have := (List.getElem?_eq_some_iff.mp hv').1
      omega
    obtain ⟨t, ht⟩ := strs_item hv hi
    rw [hv'] at ht
    obtain rfl := Option.some.inj ht
    refine wpAny_mono (helt C l[i] t s₃ m₃ E' (hp.mem_iff.mp (List.getElem_mem hi)) hn hm) (fun y s₄ h => ⟨?_, h.2⟩) fun _ _ e => e
    obtain ⟨t', rfl⟩ := h.1
    exact ⟨_, _, _, rfl, rfl⟩
  · intro D h5 tk ys vs2 hnone hl hpl2 hlen hP hPa hk
    obtain ⟨n, hD⟩ := hpl2
    have hvs2 : vs2 = vs := by
      refine List.ext_getElem? fun i => ?_
      cases hq : vs2[i]? with
      | some v => exact (hP i v hq).symm
      | none =>
        rw [List.getElem?_eq_none (by have := List.getElem?_eq_none_iff.mp hq; omega)]
    subst hvs2
    rw [List.filter_eq_self.mpr (fun _ _ => rfl)] at hPa
    have kp : ∀ b o, s₁.heap.get? b = some o → h5.get? b = some o := fun b o e => hk b o (hI' b o e) (old b o e)
    have hDn : s₁.heap.get? D = none := by
      cases q : s₁.heap.get? D with
      | none => rfl
      | some o => have := (old _ _ q).symm.trans hnone; cases this
    refine hQ D ys.toList l n h5 tk d' (F.kept kp) (fun q hq => ?_) (fun q hq e => ?_) (paired_strs hPa hv) hp
    · rcases List.mem_cons.mp hq with rfl | hq
      · refine ⟨by rw [Array.toArray_toList]; exact hD, fun e => ?_, ?_⟩
        · obtain ⟨o, es, ep, ho, _⟩ := F.ns
          have e : D = L := e
          rw [← e, hDn] at ho
          cases ho
        · cases q : h₀.get? D with
          | none => rfl
          | some o => rw [F.keep _ _ q] at hDn; cases hDn
      · exact ⟨kp _ _ (N q hq).1, (N q hq).2⟩
    · have := (N q hq).1
      rw [e, hDn] at this
      cases this
end
end Mine
end

section
set_option Elab.async false
namespace Mine
theorem joined_one (W : List (List Nat)) (q : List Nat) : joined [q] W = W.map fun x => q ++ x := by simp [joined]
theorem joined_end (a : List (List Nat)) (q : List Nat) : joined a [q] = a.map fun x => x ++ q := by
  induction a with
  | nil => rfl
  | cons x r ih => simp only [joined, List.flatMap_cons, List.map_cons, List.map_nil] at ih ⊢; rw [ih]; rfl
theorem Sm.sub {a b : List (List Nat)} (h : Sm b) (hl : a.length ≤ b.length) (hx : ∀ x ∈ a, ∃ y ∈ b, x.length ≤ y.length) : Sm a :=
  ⟨Nat.le_trans hl h.1, fun x hx' => by obtain ⟨y, hy, hle⟩ := hx x hx'; exact Nat.le_trans hle (h.2 y hy)⟩
theorem joined_len (a l : List (List Nat)) : (joined a l).length = a.length * l.length := by
  induction a with
  | nil => simp [joined]
  | cons x r ih =>
    have : joined (x :: r) l = l.map (fun y => x ++ y) ++ joined r l := by simp [joined]
    rw [this, List.length_append, List.length_map, ih, List.length_cons, Nat.succ_mul, Nat.add_comm]
theorem mem_joined {a l : List (List Nat)} {x y : List Nat} (hx : x ∈ a) (hy : y ∈ l) : x ++ y ∈ joined a l :=
  List.mem_flatMap.mpr ⟨x, hx, List.mem_map.mpr ⟨y, hy, rfl⟩⟩
theorem Sm.parts {d a l X : List (List Nat)} (h : d ++ joined a l = X) (hX : Sm X) (ha : a ≠ []) (hl : l ≠ []) : Sm d ∧ Sm a ∧ Sm l := by
  subst h
  have ha' : 0 < a.length := List.length_pos_iff.mpr ha
  have hl' : 0 < l.length := List.length_pos_iff.mpr hl
  have e := joined_len a l
  have e1 : a.length ≤ a.length * l.length := Nat.le_mul_of_pos_right _ hl'
  have e2 : l.length ≤ a.length * l.length := Nat.le_mul_of_pos_left _ ha'
  obtain ⟨x0, hx0⟩ := List.exists_mem_of_ne_nil a ha
  obtain ⟨y0, hy0⟩ := List.exists_mem_of_ne_nil l hl
  refine ⟨hX.sub (by rw [List.length_append]; omega) fun x hx => ⟨x, List.mem_append_left _ hx, Nat.le_refl _⟩, hX.sub (by rw [List.length_append]; omega) fun x hx => ⟨x ++ y0, List.mem_append_right _ (mem_joined hx hy0), by rw [List.length_append]; omega⟩, hX.sub (by rw [List.length_append]; omega) fun x hx => ⟨x0 ++ x, List.mem_append_right _ (mem_joined hx0 hx), by rw [List.length_append]; omega⟩⟩
theorem unf_lits : ∀ (q : List Nat) {d a l : List (List Nat)} {r : List Nat} {fs : List Fm} {out : List (List Nat)}, Sm (d ++ (joined a l).map fun x => x ++ q) → a ≠ [] → l ≠ [] →
    (∀ a' l', a' ≠ [] → l' ≠ [] → joined a' l' = (joined a l).map (fun x => x ++ q) → Unf r ((d, a', l') :: fs) out) → Unf (escL q ++ r) ((d, a, l) :: fs) out
  | [], d, a, l, r, fs, out, _, ha, hl, k => k a l ha hl (by simp)
  | c :: q, d, a, l, r, fs, out, hS, ha, hl, k => by
    have hJ : joined a l ≠ [] := fun q => by
      have := joined_len a l
      rw [q] at this
      have := Nat.mul_pos (List.length_pos_iff.mpr ha) (List.length_pos_iff.mpr hl)
      simp at *; omega
    have hS' : Sm (d ++ joined a l) := hS.sub (by simp) fun x hx => by
      rcases List.mem_append.mp hx with hx | hx
      · exact ⟨x, List.mem_append_left _ hx, Nat.le_refl _⟩
      · exact ⟨x ++ c :: q, List.mem_append_right _ (List.mem_map.mpr ⟨x, hx, rfl⟩), by rw [List.length_append]; omega⟩
    obtain ⟨s1, s2, s3⟩ := Sm.parts rfl hS' ha hl
    have e1 : ((joined (joined a l) [[c]]).map fun x => x ++ q) = (joined a l).map fun x => x ++ c :: q := by
      rw [joined_end, List.map_map]; congr 1; funext x; simp
    have go : Unf (escL q ++ r) ((d, joined a l, [[c]]) :: fs) out := unf_lits q (by rw [e1]; exact hS) hJ (by simp) fun a' l' ha' hl' he => k a' l' ha' hl' (by rw [he, e1])
    have e : escL (c :: q) ++ r = escC c ++ (escL q ++ r) := by simp [escL, List.flatMap_cons]
    rw [e]
    unfold escC
    split
    · exact .esc s1 s2 s3 go
    · rename_i hc
      refine .lit (fun hm => hc ?_) s1 s2 s3 go
      simp only [List.mem_cons, List.not_mem_nil, or_false] at hm
      rcases hm with rfl | rfl | rfl | rfl | rfl | rfl | rfl | rfl | rfl | rfl | rfl | rfl | rfl | rfl <;> rfl

theorem Cx.perm {ws : List (List Nat)} {X : List Nat} {W : List (List Nat)} (h : Cx ws X W) : W.Perm ws := by
  induction h with
  | one => exact .refl _
  | opt _ ih => exact (List.perm_append_comm.trans (ih.cons _))
  | set => exact .refl _
  | @sets ws X W _ _ _ ih =>
    refine (ih.append_right _).trans (List.perm_append_comm.trans ?_)
    exact List.filter_append_perm (fun x => x.length == 1) ws
  | @pre ws X W q _ h2 _ ih =>
    refine (ih.map _).trans ?_
    rw [List.map_map]
    refine List.Perm.of_eq ?_
    conv => rhs; rw [← List.map_id ws]
    refine List.map_congr_left fun x hx => ?_
    show q ++ x.drop q.length = x
    conv => lhs; arg 1; rw [← h2 x hx]
    exact List.take_append_drop _ _
  | @suf ws ws2 X W q _ h2 hp _ ih =>
    refine (ih.map _).trans ((hp.map _).trans ?_)
    rw [List.map_map]
    refine List.Perm.of_eq ?_
    conv => rhs; rw [← List.map_id ws]
    refine List.map_congr_left fun x hx => ?_
    obtain ⟨y, rfl⟩ := h2 x hx
    simp
  | grp _ _ _ _ _ _ _ ih1 ih2 => exact ih1.append ih2
theorem Cx.neW {ws : List (List Nat)} {X : List Nat} {W : List (List Nat)} (h : Cx ws X W) : W ≠ [] := fun q => h.ne (List.Perm.eq_nil (q ▸ h.perm.symm))

/-- no later word has an earlier one as its beginning -/
def Ord (W : List (List Nat)) : Prop := W.Pairwise fun a b => ¬ a <+: b
theorem Ord.nodupLen {W : List (List Nat)} (hn : W.Nodup) (h1 : ∀ x ∈ W, x.length = 1) : Ord W :=
  hn.imp_of_mem fun {a b} ha hb hab hp => hab (hp.eq_of_length (by rw [h1 a ha, h1 b hb]))
theorem Ord.map {W : List (List Nat)} {f : List Nat → List Nat} (h : Ord W) (hf : ∀ a b, f a <+: f b → a <+: b) : Ord (W.map f) := by
  unfold Ord
  rw [List.pairwise_map]
  exact h.imp fun {a b} h q => h (hf a b q)
theorem Cx.ord {ws : List (List Nat)} {X : List Nat} {W : List (List Nat)} (h : Cx ws X W) (hn : ws.Nodup) : Ord W := by
  induction h with
  | one => simp [Ord]
  | @opt tl X W h ih =>
    obtain ⟨h1, h2⟩ := List.nodup_cons.mp hn
    refine List.pairwise_append.mpr ⟨ih h2, by simp, fun a ha b hb hp => ?_⟩
    rw [List.mem_singleton] at hb
    subst hb
    have : a = [] := List.prefix_nil.mp hp
    subst this
    exact h1 (h.perm.mem_iff.mp ha)
  | set h1 h2 => exact Ord.nodupLen hn h2
  | @sets ws X W h0 h1 h ih =>
    have hf := h.perm
    refine List.pairwise_append.mpr ⟨ih (hn.filter _), Ord.nodupLen (hn.filter _) (fun x hx => by simpa using (List.mem_filter.mp hx).2), fun a ha b hb hp => ?_⟩
    obtain ⟨ha1, ha2⟩ := List.mem_filter.mp (hf.mem_iff.mp ha)
    have hb2 : b.length = 1 := by simpa using (List.mem_filter.mp hb).2
    have ha3 : a.length ≠ 1 := by simpa using ha2
    have := hp.length_le
    have : 0 < a.length := List.length_pos_iff.mpr (h0 a ha1)
    omega
  | @pre ws X W q _ h2 _ ih =>
    refine (ih ?_).map fun a b hp => ?_
    · refine List.pairwise_map.mpr (hn.imp_of_mem fun {a b} ha hb hab he => hab ?_)
      rw [← List.take_append_drop q.length a, ← List.take_append_drop q.length b, h2 a ha, h2 b hb, he]
    · exact (List.prefix_append_right_inj q).mp hp
  | @suf ws ws2 X W q _ h2 hp _ ih =>
    refine (ih ?_).map fun a b hp' => ?_
    · refine hp.nodup_iff.mpr (List.pairwise_map.mpr (hn.imp_of_mem fun {a b} ha hb hab he => hab ?_))
      obtain ⟨y, rfl⟩ := h2 a ha
      obtain ⟨z, rfl⟩ := h2 b hb
      simp at he
      rw [he]
    · have hl := hp'.length_le
      simp only [List.length_append] at hl
      exact List.prefix_of_prefix_length_le ((List.prefix_append a q).trans hp') (List.prefix_append b q) (by omega)
  | @grp g1 g2 X1 W1 X2 W2 c _ _ h3 h4 hc1 hc2 ih1 ih2 =>
    obtain ⟨n1, n2, _⟩ := List.nodup_append.mp hn
    refine List.pairwise_append.mpr ⟨ih1 n1, ih2 n2, fun a ha b hb hp => ?_⟩
    have ha' := h3 a (hc1.perm.mem_iff.mp ha)
    obtain ⟨hb1, hb2⟩ := h4 b (hc2.perm.mem_iff.mp hb)
    obtain ⟨t, rfl⟩ := hp
    cases a with
    | nil => simp at ha'
    | cons x a => exact hb2 (by simpa using ha')

theorem head_app {X r : List Nat} (h1 : X.take 1 ≠ [63]) (h2 : r.take 1 ≠ [63]) : (X ++ r).take 1 ≠ [63] := by
  cases X with
  | nil => exact h2
  | cons x X => simpa using h1
theorem escL_head (q : List Nat) : (escL q).take 1 ≠ [63] := by
  cases q with
  | nil => simp [escL]
  | cons c q =>
    have e : escL (c :: q) = escC c ++ escL q := by simp [escL, List.flatMap_cons]
    rw [e]
    unfold escC
    split
    · simp
    · rename_i hc
      simp only [List.cons_append, List.nil_append, List.take_succ_cons, List.take_zero]
      intro q
      injection q with q
      subst q
      exact hc rfl
theorem head_app' {X r : List Nat} (h1 : X.take 1 ≠ [63]) (h0 : X ≠ []) : (X ++ r).take 1 ≠ [63] := by
  cases X with
  | nil => exact absurd rfl h0
  | cons x X => simpa using h1
theorem Cx.head {ws : List (List Nat)} {X : List Nat} {W : List (List Nat)} (h : Cx ws X W) : X.take 1 ≠ [63] := by
  induction h with
  | one x => exact escL_head x
  | opt => simp [GRP]
  | set => simp
  | sets _ _ _ ih => rw [List.append_assoc]; exact head_app ih (by simp)
  | @pre ws X W q _ _ _ _ => exact head_app (escL_head q) (by simp [GRP])
  | suf => simp [GRP]
  | grp _ _ _ _ _ _ _ ih1 ih2 => rw [List.append_assoc]; exact head_app ih1 (by simp)
theorem Sm.sub1 {a b c : List (List Nat)} (h : Sm (a ++ (b ++ c))) : Sm (a ++ b) := h.sub (by simp only [List.length_append]; omega) fun x hx => ⟨x, by simp only [List.mem_append] at hx ⊢; rcases hx with h | h <;> simp [h], Nat.le_refl _⟩
theorem Sm.sub2 {a b : List (List Nat)} (h : Sm (a ++ b)) : Sm b := h.sub (by simp) fun x hx => ⟨x, by simp [hx], Nat.le_refl _⟩
theorem Sm.sub0 {a b : List (List Nat)} (h : Sm (a ++ b)) : Sm a := h.sub (by simp) fun x hx => ⟨x, by simp [hx], Nat.le_refl _⟩
theorem Sm.one : Sm [[]] := ⟨by simp, fun x hx => by rw [List.mem_singleton] at hx; subst hx; simp⟩
theorem joined11 : joined [[]] [[]] = [[]] := rfl
theorem joined1 (W : List (List Nat)) : joined [[]] W = W := by rw [joined_one]; simp
/-- a group in brackets without a mark -/
theorem unf_grp {X r : List Nat} {d a l W : List (List Nat)} {fs : List Fm} {out : List (List Nat)} (hs1 : Sm d) (hs2 : Sm a) (hs3 : Sm l) (hW : Sm W)
    (hX : ∀ (d0 : List (List Nat)) (r : List Nat) (fs : List Fm) (out : List (List Nat)), Sm (d0 ++ W) → r.take 1 ≠ [63] → (∀ d a l, d ++ joined a l = d0 ++ W → a ≠ [] → l ≠ [] → Unf r ((d, a, l) :: fs) out) → Unf (X ++ r) ((d0, [[]], [[]]) :: fs) out)
    (k : Unf r ((d, joined a l, W) :: fs) out) : Unf (GRP ++ X ++ [41] ++ r) ((d, a, l) :: fs) out := by
  have e : GRP ++ X ++ [41] ++ r = 40 :: 63 :: 58 :: (X ++ 41 :: r) := by simp [GRP]
  rw [e]
  refine .opc (hX [] _ _ _ hW (by simp) fun d' a' l' he ha hl => ?_)
  obtain ⟨s1, s2, s3⟩ := Sm.parts he hW ha hl
  refine .cls s1 s2 s3 hs1 hs2 hs3 ?_
  rw [he]
  exact k
theorem unf_set_ {cs r : List Nat} {d a l : List (List Nat)} {fs : List Fm} {out : List (List Nat)} (hn : cs.length ≤ 1000) (hs1 : Sm d) (hs2 : Sm a) (hs3 : Sm l)
    (k : Unf r ((d, joined a l, cs.map fun c => [c]) :: fs) out) : Unf ([91] ++ encL cs ++ [93] ++ r) ((d, a, l) :: fs) out := by
  have e : [91] ++ encL cs ++ [93] ++ r = 91 :: (encL cs ++ 93 :: r) := by simp
  rw [e]
  exact .set hn hs1 hs2 hs3 k
theorem ones_flat' : ∀ {ws : List (List Nat)}, (∀ x ∈ ws, x.length = 1) → ws.flatten.map (fun c => [c]) = ws
  | [], _ => rfl
  | x :: r, h => by
    have ih := ones_flat' fun y hy => h y (List.mem_cons_of_mem _ hy)
    match x, h x (List.mem_cons_self ..) with
    | [c], _ => rw [List.flatten_cons, List.map_append, ih]; rfl
theorem ones_len' {ws : List (List Nat)} (h : ∀ x ∈ ws, x.length = 1) : ws.flatten.length = ws.length := by
  have := congrArg List.length (ones_flat' h)
  rwa [List.length_map] at this
theorem Cx.unf {ws : List (List Nat)} {X : List Nat} {W : List (List Nat)} (h : Cx ws X W) : ∀ (d0 : List (List Nat)) (r : List Nat) (fs : List Fm) (out : List (List Nat)), Sm (d0 ++ W) → r.take 1 ≠ [63] →
    (∀ d a l, d ++ joined a l = d0 ++ W → a ≠ [] → l ≠ [] → Unf r ((d, a, l) :: fs) out) → Unf (X ++ r) ((d0, [[]], [[]]) :: fs) out := by
  induction h with
  | one x =>
    intro d0 r fs out hS hr k
    refine unf_lits x (by simpa [joined] using hS) (by simp) (by simp) fun a' l' ha hl he => k d0 a' l' (by rw [he]; simp [joined]) ha hl
  | @opt tl X W hc ih =>
    intro d0 r fs out hS hr k
    have e : GRP ++ X ++ [41] ++ [63] ++ r = GRP ++ X ++ [41] ++ (63 :: r) := by simp
    rw [e]
    have hS1 : Sm (d0 ++ W) := hS.sub1
    refine unf_grp hS.sub0 Sm.one Sm.one hS1.sub2 ih ?_
    rw [joined11]
    refine .opt hr hS.sub0 Sm.one hS1.sub2 (k _ _ _ ?_ (by simp) (by simp))
    rw [joined1]
  | @set ws h1 h2 =>
    intro d0 r fs out hS hr k
    refine unf_set_ (by rw [ones_len' h2]; exact hS.sub2.1) hS.sub0 Sm.one Sm.one ?_
    rw [joined11, ones_flat' h2]
    exact k _ _ _ (by rw [joined1]) (by simp) h1
  | @sets ws X W h0 h1 hc ih =>
    intro d0 r fs out hS hr k
    have e : ∀ Z : List Nat, X ++ [124] ++ Z ++ r = X ++ 124 :: (Z ++ r) := fun Z => by simp
    rw [e]
    have h2 : ∀ x ∈ ws.filter (fun x => x.length == 1), x.length = 1 := fun x hx => by simpa using (List.mem_filter.mp hx).2
    have hS1 : Sm (d0 ++ W) := hS.sub1
    refine ih d0 _ fs out hS1 (by simp) fun d a l he ha hl => ?_
    obtain ⟨s1, s2, s3⟩ := Sm.parts he hS1 ha hl
    refine .bar s1 s2 s3 ?_
    rw [he]
    refine unf_set_ (by rw [ones_len' h2]; exact hS.sub2.sub2.1) hS1 Sm.one Sm.one ?_
    rw [joined11, ones_flat' h2]
    exact k _ _ _ (by rw [joined1, List.append_assoc]) (by simp) h1
  | @pre ws X W q h1 h2 hc ih =>
    intro d0 r fs out hS hr k
    have e : escL q ++ (GRP ++ X ++ [41]) ++ r = escL q ++ (GRP ++ X ++ [41] ++ r) := by simp
    rw [e]
    have hW : W ≠ [] := hc.neW
    obtain ⟨x0, hx0⟩ := List.exists_mem_of_ne_nil W hW
    have hSW : Sm W := hS.sub2.sub (by simp) fun x hx => ⟨q ++ x, List.mem_map.mpr ⟨x, hx, rfl⟩, by simp⟩
    have hq1 : Sm (d0 ++ [q]) := hS.sub (by have := List.length_pos_iff.mpr hW; simp; omega) fun x hx => by
      rcases List.mem_append.mp hx with hx | hx
      · exact ⟨x, List.mem_append_left _ hx, Nat.le_refl _⟩
      · rw [List.mem_singleton] at hx
        subst hx
        exact ⟨x ++ x0, List.mem_append_right _ (List.mem_map.mpr ⟨x0, hx0, rfl⟩), by simp⟩
    refine unf_lits q (by simpa [joined] using hq1) (by simp) (by simp) fun a' l' ha hl he => ?_
    have he' : joined a' l' = [q] := by rw [he]; simp [joined]
    obtain ⟨s1, s2, s3⟩ := Sm.parts rfl (by rw [he']; exact hq1 : Sm (d0 ++ joined a' l')) ha hl
    refine unf_grp s1 s2 s3 hSW ih ?_
    rw [he']
    exact k _ _ _ (by rw [joined_one]) (by simp) hW
  | @suf ws ws2 X W q h1 h2 hp hc ih =>
    intro d0 r fs out hS hr k
    have e : GRP ++ X ++ [41] ++ escL q ++ r = GRP ++ X ++ [41] ++ (escL q ++ r) := by simp
    rw [e]
    have hW : W ≠ [] := hc.neW
    have hSW : Sm W := hS.sub2.sub (by simp) fun x hx => ⟨x ++ q, List.mem_map.mpr ⟨x, hx, rfl⟩, by simp⟩
    refine unf_grp hS.sub0 Sm.one Sm.one hSW ih ?_
    rw [joined11]
    refine unf_lits q (by rw [joined1]; exact hS) (by simp) hW fun a' l' ha hl he => k _ _ _ (by rw [he, joined1]) ha hl
  | @grp g1 g2 X1 W1 X2 W2 c h1 h2 h3 h4 hc1 hc2 ih1 ih2 =>
    intro d0 r fs out hS hr k
    have e : X1 ++ [124] ++ X2 ++ r = X1 ++ 124 :: (X2 ++ r) := by simp
    rw [e]
    have hS1 : Sm (d0 ++ W1) := hS.sub1
    refine ih1 d0 _ fs out hS1 (by simp) fun d a l he ha hl => ?_
    obtain ⟨s1, s2, s3⟩ := Sm.parts he hS1 ha hl
    refine .bar s1 s2 s3 ?_
    rw [he]
    refine ih2 _ _ _ _ (by rw [List.append_assoc]; exact hS) hr fun d a l he ha hl => k d a l (by rw [he, List.append_assoc]) ha hl
/-- the whole pattern, unfolded -/
theorem Cx.whole {ws : List (List Nat)} {X : List Nat} {W : List (List Nat)} (h : Cx ws X W) (hn : ws.length ≤ 900) (hl : ∀ x ∈ ws, x.length ≤ 900) :
    Unf ([120] ++ ([40] ++ X ++ [41]) ++ [121]) [([], [[]], [[]])] (W.map fun x => [120] ++ x ++ [121]) := by
  have hS : Sm W := ⟨by rw [h.perm.length_eq]; omega, fun x hx => by have := hl x (h.perm.mem_iff.mp hx); omega⟩
  have hS2 : Sm (W.map fun x => [120] ++ x) := ⟨by rw [List.length_map]; exact hS.1, fun x hx => by
    obtain ⟨y, hy, rfl⟩ := List.mem_map.mp hx
    have := hl y (h.perm.mem_iff.mp hy)
    simp; omega⟩
  have e : [120] ++ ([40] ++ X ++ [41]) ++ [121] = 120 :: 40 :: (X ++ 41 :: [121]) := by simp
  have s0 : Sm [] := ⟨by simp, by simp⟩
  have s1 : ∀ c, Sm [[c]] := fun c => ⟨by simp, by simp⟩
  rw [e]
  refine .lit (by decide) s0 Sm.one Sm.one ?_
  rw [joined11]
  refine .opn (fun q => ?_) ?_
  · have := head_app (r := 41 :: [121]) h.head (by simp)
    have q2 := congrArg (List.take 1) q
    rw [List.take_take] at q2
    exact this q2
  · refine h.unf [] _ _ _ hS (by simp) fun d a l he ha hl => ?_
    obtain ⟨t1, t2, t3⟩ := Sm.parts he hS ha hl
    refine .cls t1 t2 t3 s0 Sm.one (s1 _) ?_
    rw [he, joined1]
    refine .lit (by decide) s0 (s1 _) hS ?_
    rw [List.nil_append, joined_one]
    have : Unf [] [([], W.map fun x => [120] ++ x, [[121]])] ([] ++ joined (W.map fun x => [120] ++ x) [[121]]) := .fin s0 hS2 (s1 _)
    rw [joined_end, List.nil_append, List.map_map] at this
    exact this
end Mine
end

section
open PySem PySem.W PyProof.Rows
set_option Elab.async false
set_option maxRecDepth 100000
namespace Mine
structure FEnv (cenv : Env) (c : Addr) : Prop where
  fn : cenv.scope.kind = .function
  place : cenv.kindOf (PySem.Str.ofString "place") = some .local
  other : cenv.kindOf (PySem.Str.ofString "other") = some .local
  found : cenv.kindOf (PySem.Str.ofString "found") = some .cell
  cell : cenv.cells.lookup (PySem.Str.ofString "found") = some c
def FV (fs : List (List Nat)) (i : Nat) (v : Value) : Prop := ∃ (j : Nat) (t : Tok) (h : j < fs.length), j < i ∧ v = .str (S fs[j]) t
def NoPre (fs : List (List Nat)) : Prop := ∀ (i j : Nat) (hi : i < fs.length) (hj : j < fs.length), j < i → ¬ (fs[j].take (fs[j].length - 1)) <+: fs[i]
theorem starts_pre {a p : List Nat} (h : Txt.startswith (S a) (S p) = true) : p <+: a := by
  unfold Txt.startswith Builtin.Str.subAt at h
  simp only [Bool.and_eq_true, decide_eq_true_eq, S_len, Nat.zero_add] at h
  have h2 := congrArg Array.toList (eq_of_beq h.2)
  simp only [Array.toList_extract, S_toList, List.extract_eq_drop_take, List.drop_zero, Nat.sub_zero] at h2
  rw [← h2]
  exact List.take_prefix _ _
theorem noPre_of {W : List (List Nat)} (hO : Ord W) (h9 : ∀ x ∈ W, ∀ c ∈ x, c ≠ 121) : NoPre (W.map fun x => [120] ++ x ++ [121]) := by
  intro i j hi hj hji hp
  simp only [List.length_map] at hi hj
  simp only [List.getElem_map] at hp
  have e : ([120] ++ W[j] ++ [121]).take (([120] ++ W[j] ++ [121]).length - 1) = [120] ++ W[j] := by
    exact List.take_left' (by simp)
  rw [e, List.append_assoc, List.prefix_append_right_inj] at hp
  have hd := List.pairwise_iff_getElem.mp hO j i hj hi hji
  rcases List.prefix_concat_iff.mp (by simpa using hp) with q | q
  · exact h9 _ (List.getElem_mem hj) 121 (by rw [q]; simp) rfl
  · exact hd q
section
variable {prog : Program} {w : World} {A : Around} {s : Shared} {cenv : Env} {c Fd : Addr} {vs : List Value} {fs : List (List Nat)} {B : Heap} {pa pb pc pd pe pf pg ph pi pj pk : Pos} {kk : Nat}
theorem slice_piece (J : FEnv cenv c) (hc : B.IsCell c (some (.ref Fd))) (hl : B.IsList Fd vs.toArray) (hS : StrsAre vs (fs.map S)) (hn : fs.length ≤ 1000) :
   SliceTo prog w A B (.Subscript (.Name (PySem.Str.ofString "found") pa) (.Slice none (some (.Name (PySem.Str.ofString "place") pb)) none pc) pd) cenv (PySem.Str.ofString "place") (FV fs) fs.length := by
  intro i t s₃ m₃ hi hns hm hB
  have hlen := strsAre_len hS
  have hc₃ : s₃.heap.IsCell c (some (.ref Fd)) := let ⟨o, ho, hd⟩ := hc; ⟨o, hB _ _ ho, hd⟩
  have hl₃ : s₃.heap.IsList Fd vs.toArray := hl.at fun o e => hB _ o e
  refine Subscript_ (wpAny_Name (wpAny_loadName_cell J.fn J.found J.cell hc₃ ?_))
  refine wpAny_Slice (evalPart_none_step (evalPart_some_step ?_))
  refine wpAny_Name (wpAny_loadName_local J.fn J.place hns hm ?_)
  refine evalPart_none_step ?_
  refine slice_listK hl₃ .none (.int _ _) ?_ (hsz := by rw [List.size_toArray]; unfold sizeLine; omega)
  refine ⟨s₃.heap.objs.size + 1, _, rfl, isList_pushed2 _ _ _, ?_, fresh_above _ 1, ?_, _, _, rfl, fun _ _ e => Heap.get?_push_of_some _ (Heap.get?_push_of_some _ e)⟩
  · rw [kms_pick_eq, List.size_toArray]
    unfold kms_pick
    rw [List.length_take, List.length_drop, List.toList_toArray]
    omega
  · intro j v hv
    rw [kms_pick_eq, List.getElem?_toArray] at hv
    unfold kms_pick kms_lo kms_hi at hv
    simp only [List.drop_zero, Nat.sub_zero] at hv
    rw [if_neg (by omega)] at hv
    have hj : j < i := by
      have := (List.getElem?_eq_some_iff.mp hv).1
      rw [List.length_take] at this
      omega
    rw [List.getElem?_take_of_lt (by omega)] at hv
    have hjl : j < fs.length := by omega
    obtain ⟨t', ht⟩ := strs_item hS hjl
    have hv : vs[j]? = some v := hv
    rw [ht] at hv
    exact ⟨j, t', hjl, hj, (Option.some.inj hv).symm⟩
theorem test_piece (J : FEnv cenv c) (hc : B.IsCell c (some (.ref Fd))) (hl : B.IsList Fd vs.toArray) (hS : StrsAre vs (fs.map S)) (hn : fs.length ≤ 1000) (hz : ∀ z ∈ fs, z.length ≤ 1000) (hP : NoPre fs) (hline : (pf.endLine == pk.line) = true) :
   TestNo prog w A B (.Call (.Attribute (.Subscript (.Name (PySem.Str.ofString "found") pa) (.Name (PySem.Str.ofString "place") pb) pc) (PySem.Str.ofString "startswith") pf) [.Subscript (.Name (PySem.Str.ofString "other") pd) (.Slice none (some (.UnaryOp .USub (.Constant (.int 1) kk pe) pg)) none ph) pi] [] pk) cenv (PySem.Str.ofString "place") (PySem.Str.ofString "other") (FV fs) fs.length := by
  rintro i t v s₃ m₃ hi ⟨j, t', hj, hji, rfl⟩ hns hm0 hm1 hB
  have hlen := strsAre_len hS
  have hc₃ : s₃.heap.IsCell c (some (.ref Fd)) := let ⟨o, ho, hd⟩ := hc; ⟨o, hB _ _ ho, hd⟩
  have hl₃ : s₃.heap.IsList Fd vs.toArray := hl.at fun o e => hB _ o e
  obtain ⟨ti, hti⟩ := strs_item hS hi
  have hlz := hz _ (List.getElem_mem hj)
  refine wpAny_isTrue_value (Call_method1 rfl rfl hline ?_)
  refine Subscript_ (wpAny_Name (wpAny_loadName_cell J.fn J.found J.cell hc₃ ?_))
  refine wpAny_Name (wpAny_loadName_local J.fn J.place hns hm0 ?_)
  refine item_list hl₃ (by omega) (by omega) (x := .str (S fs[i]) ti) (by rw [Int.toNat_natCast, List.getElem?_toArray]; exact hti) ?_
  refine SB.startswith ?_
  refine Subscript_ (wpAny_Name (wpAny_loadName_local J.fn J.other hns hm1 ?_))
  refine wpAny_Slice (evalPart_none_step (evalPart_some_step ?_))
  refine UnaryOp_ (wpAny_Constant_int ?_)
  refine neg_int (evalPart_none_step ?_)
  refine tail_of_ItemOn (SBH.sliceItem_ns (P := fun h' => ∀ b o, s₃.heap.get? b = some o → h'.get? b = some o) (s := { s₃ with toks := s₃.toks + 1 + 1 }) (fun h' ob hP b o e => Heap.get?_push_of_some _ (hP b o e)) (fun _ _ e => e) (fun h' t' k' hP' => ?_) (by rw [S_len]; simp only [sizeLine]; omega)) (by with_unfolding_all rfl) (by intro _; with_unfolding_all rfl)
  refine ⟨_, _, rfl, ?_⟩
  refine wpAny_truthy_bool ⟨?_, _, _, rfl, hP'⟩
  rw [slice_neg (by decide), show (-(-1 : Int)).toNat = 1 by decide]
  cases q : Txt.startswith (S fs[i]) (S (fs[j].take (fs[j].length - 1))) with
  | false => rfl
  | true => exact absurd (starts_pre q) (hP i j hi hj hji)
theorem xy_elt {C : Addr} {z : List Nat} {t : Tok} {m₂ : PySem.Str → Option Value} {E : Value → Shared → Prop} {k1 k2 : Nat} (hk : cenv.scope.kind = .function) (hx : cenv.kindOf (PySem.Str.ofString "word") = some .local) (hC : cenv.locals = C)
    (hn : s.heap.Ns C m₂) (hm : m₂ (PySem.Str.ofString "word") = some (.str (S z) t)) (hz : z.length ≤ 1000) :
    wpAny (model prog w) A (eval (.BinOp (.BinOp (.Constant (.str (PySem.Str.ofString "x")) k1 pa) .Add (.Name (PySem.Str.ofString "word") pb) pc) .Add (.Constant (.str (PySem.Str.ofString "y")) k2 pd) pe) cenv) (fun v s' => (∃ t, v = .str (S ([120] ++ z ++ [121])) t) ∧ Keeps s s') E s := by
  subst hC
  refine wpAny_BinOp (wpAny_BinOp ?_)
  refine wpAny_Constant_str ?_
  refine wpAny_Name (wpAny_loadName_local hk hx hn hm ?_)
  rw [show PySem.Str.ofString "x" = S [120] from rfl]
  refine SBL.add (fun t' k' _ => ?_) (by rw [S_len, S_len]; simp only [sizeLine, List.length_cons, List.length_nil]; omega)
  refine wpAny_Constant_str ?_
  rw [show PySem.Str.ofString "y" = S [121] from rfl, S_app]
  refine SBL.add (fun t' k' _ => ?_) (by rw [S_len, S_len]; simp only [sizeLine, List.length_append, List.length_cons, List.length_nil]; omega)
  rw [S_app]
  exact ⟨⟨_, rfl⟩, _, _, rfl, fun _ _ e => e⟩
end
end Mine
end

section
open PySem PySem.W PyProof.Rows
set_option Elab.async false
namespace Mine
local macro_rules | `(tactic| k_room) => `(tactic| ((try simp only [depth_under_make, depth_under_kw, depth_in1, depth_deeper, depth_caller]); (try dsimp only [At]); simp only [recursionLimit]; omega))
local macro_rules | `(tactic| size_fits) => `(tactic| exact Nat.le_of_ble_eq_true rfl)
local macro_rules | `(tactic| k_steps) => `(tactic| repeat' ((fail_if_success (with_reducible show wpAny _ _ (call (Value.ref 179) _) _ _ _)); (fail_if_success (with_reducible show wpAny _ _ (call (Value.type "set") _) _ _ _)); (fail_if_success (with_reducible show wpAny _ _ (call (Value.builtin "sorted") _) _ _ _)); first | (k_unfold; (try dsimp only)) | (k_end; wrow_close) | walk1 | (dsimp only; walk1) | (leave1; walk_say "STEP leave1"; try dsimp only) | fail "no step"))
theorem nodup_len : ∀ {ks ws : List (List Nat)}, ks.Nodup → (∀ x ∈ ks, x ∈ ws) → ks.length ≤ ws.length
  | [], _, _, _ => Nat.zero_le _
  | k :: r, ws, hn, hm => by
    obtain ⟨h1, h2⟩ := List.nodup_cons.mp hn
    have hk := hm k (.head _)
    have := nodup_len (ws := ws.erase k) h2 fun x hx => (List.mem_erase_of_ne (by rintro rfl; exact h1 hx)).mpr (hm x (.tail _ hx))
    rw [List.length_erase_of_mem hk] at this
    have := List.length_pos_of_mem hk
    rw [List.length_cons]
    omega
theorem msr_le {c : Nat} : ∀ {ws : List (List Nat)}, (∀ x ∈ ws, x.length ≤ c) → msr ws ≤ ws.length * (c + 1)
  | [], _ => Nat.zero_le _
  | x :: r, h => by
    have := msr_le (ws := r) fun y hy => h y (.tail _ hy)
    have := h x (.head _)
    rw [msr_cons, List.length_cons, Nat.add_mul]
    omega
section
set_option maxRecDepth 100000
set_option maxHeartbeats 8000000
theorem ropt_spec {w : World} {base : Heap} {loose : List PySem.Str} {mean : ExcName → Option Value} {mg mb : PySem.Str → Option Value} (XB : (KF w).In base) (TB : Top PySem.W.topProg loose mean mg mb base)
  {n : Nat} (hIn : InnerSpec w base n) {dp un : Nat} {outer : List Env} {gd : Option (List Code)} {s : Shared} {Q E : Value → Shared → Prop} {g : Heap} {led : List (Addr × Obj)} {l : Addr} {vs : List Value} {nl : Nat} {ws : List (List Nat)} {tx ty : Tok} {p1 p2 : Array Value}
  (hd : dp + 1 + 4 * n < 900) (hm : ws.length * 6 < n) (hlen : ws.length ≤ 20) (hw : ∀ x ∈ ws, x.length ≤ 5) (hne : ws ≠ [])
  (G : Grd (At dp (some outer) gd un) base outer g led s.heap) (hT : Tabs led p1 p2) (hl : (l, listOf vs.toArray nl) ∈ led) (hS : StrsAre vs (ws.map S))
  (k : ∀ g' led' h' gens' tk d' t p1' p2' ks sw X W, KtsTurn (outer.filterMap (·.frame)) g g' → Grd (At dp (some outer) gd un) base outer g' led' h' → Tabs led' p1' p2' → (∀ q ∈ led, q.1 ≠ 52 → q.1 ≠ 176 → q ∈ led') → (∀ i, i < s.gens.size → gens'[i]? = s.gens[i]?) → GUp s.gens gens' →
     Cx sw X W → sw.Perm ks → ks.Nodup → (∀ x, x ∈ ks ↔ x ∈ ws) →
     Q (.str (S (([120] ++ ([40] ++ X ++ [41])) ++ [121])) t) { s with heap := h', gens := gens', toks := tk, drawn := d' }) :
  wpAny (model PR w) (At dp (some outer) gd un) (call (.ref 187) [.ref l, .str (S [120]) tx] [(PySem.Str.ofString "suffix", .str (S [121]) ty)]) Q E s := by
   delta PR KF at *
   revert XB; k_fill; intro XB
   refine wpAny_call ?_
   k_dflt (refine' enter_grd G XB TB ?k6 ?k7 ?k8 ?k9 ?kB ?_ ?c2 ?c3 ?c4 ?c5; (case k6 => k_is); (case k7 => k_is); (case k8 => (show dp < _; simp only [recursionLimit]; omega)); (case k9 => exact binds_K ((XB.keeps G.below.stays).keeps G.keep) rfl (by k_is) rfl rfl rfl); (case kB => exact locs rfl); (case c2 => exact rfl); (case c3 => exact rfl); (case c4 => exact rfl); (case c5 => decide +kernel); k_whole)
   intro L h₁ hL F' N' B' X' T' D' K0
   obtain ⟨u, F'⟩ := fr_fit (ps := [(PySem.Str.ofString "strings", .ref l), (PySem.Str.ofString "prefix", .str (S [120]) tx), (PySem.Str.ofString "suffix", .str (S [121]) ty)]) F' (by
     intro q hq
     simp only [List.mem_cons, List.not_mem_nil, or_false] at hq
     rcases hq with rfl | rfl | rfl <;> rfl)
   clear F'
   rename (Fr _ _ _ _) => F'
   have hbig : ws.length + 1 < scanBound := by unfold scanBound; omega
   have hdi : dp + 1 + 4 * n < 900 := hd
   k_steps
   refine set_N rfl F' N' hl hS hbig fun D o ks h2 tk2 F2 N2 hD hO hnd hks => ?_
   k_sweep
   k_steps
   have hkl : ks.length ≤ ws.length := nodup_len hnd fun x hx => (hks x).mp hx
   have hkne : ks ≠ [] := by
     obtain ⟨x, hx⟩ := List.exists_mem_of_ne_nil _ hne
     exact List.ne_nil_of_mem ((hks x).mpr hx)
   refine sortedSet_N rfl F2 N2 (.head _) hO hkne (by omega) fun D2 vs' W n2 h3 tk3 d3 F3 N3 hD2 hS3 hp3 hW => ?_
   k_sweep
   k_steps
   have hWl : W.length ≤ ws.length := by rw [hp3.length_eq]; exact hkl
   have hWm : ∀ x ∈ W, x ∈ ws := fun x hx => (hks x).mp (hp3.mem_iff.mp hx)
   have hWne : W ≠ [] := by
     rintro rfl
     exact hkne hp3.symm.eq_nil
   have hmW : msr W < n := by
     have h1 := msr_le (c := 5) fun x hx => hw x (hWm x hx)
     have h2 := Nat.mul_le_mul_right 6 hWl
     omega
   refine inner_N (p := [40]) hIn (by with_reducible assumption) (by with_reducible assumption) B' D' K0 rfl (by show ScopeKind.function ≠ ScopeKind.module; decide) hmW (by show dp + 1 + 4 * n < 900; omega) (Srt.of hW hp3 hnd (by omega) fun x hx => Nat.le_trans (hw x ((hks x).mp hx)) (by decide)) hWne (fun q => by cases q) (by decide) (hT.sub (.tail _ (.tail _ hT.m52)) (.tail _ (.tail _ hT.m176)) fun q hq h1 h2 => .tail _ (.tail _ hq)) (.head _) hS3 ?_
   intro g2 led2 h6 gens2 tk6 t6 q1' q2' X W2 T2 F7 N7 B7 D7 hT7 hsub hg1 hg2 hC
   have hXl := hC.len
   have hXl : (S ([40] ++ X ++ cl [40])).length ≤ 8000 := by rw [S_len]; simp only [cl, List.length_append, List.length_cons, List.length_nil]; simp; omega
   have X7 := XB.keeps B7.stays
   have T7 := TB.keeps B7.stays
   k_sweep
   k_steps
   rw [S_app, S_app, show [120] ++ ([40] ++ X ++ cl [40]) ++ [121] = [120] ++ ([40] ++ X ++ [41]) ++ [121] by simp [cl]]
   exact k g2 led2 _ gens2 _ _ _ q1' q2' ks W X W2 T2 (Fr.grd F7 N7 B7 D7) hT7 (fun q hq h1 h2 => hsub q (.tail _ (.tail _ hq)) h1 h2) hg1 hg2 hC hp3 hnd hks
end
section
theorem ropt_N {w : World} {base g : Heap} {L : Addr} {m : PySem.Str → Option Value} {led : List (Addr × Obj)} {s : Shared} {loose : List PySem.Str} {mean : ExcName → Option Value} {mg mb : PySem.Str → Option Value} (XB : (KF w).In base) (TB : Top PySem.W.topProg loose mean mg mb base)
   {n dp' un' : Nat} {gd' : Option (List Code)} {A₀ : Around} {env : Env} {outer : List Env} {g₀ : Heap} {Q E : Value → Shared → Prop} {l : Addr} {vs : List Value} {nl : Nat} {ws : List (List Nat)} {tx ty : Tok} {p1 p2 : Array Value}
   (hIn : InnerSpec w base n) (F : Fr g L s.heap m) (N : News g L s.heap led) (B : Below A₀ base outer g) (D : KtsDicts (outer.filterMap (·.frame)) g) (T0 : KtsTurn (outer.filterMap (·.frame)) g₀ g) (hf : env.frame = some L) (hck : env.scope.kind ≠ .module)
   (hd : dp' + 1 + 4 * n < 900) (hm : ws.length * 6 < n) (hlen : ws.length ≤ 20) (hw : ∀ x ∈ ws, x.length ≤ 5) (hne : ws ≠ []) (hT : Tabs led p1 p2) (hl : (l, listOf vs.toArray nl) ∈ led) (hS : StrsAre vs (ws.map S))
   (k : ∀ g' led' h' gens' tk d' t p1' p2' ks sw X W, KtsTurn (outer.filterMap (·.frame)) g₀ g' → Fr g' L h' m → News g' L h' led' → Below A₀ base outer g' → KtsDicts (outer.filterMap (·.frame)) g' → Tabs led' p1' p2' → (∀ q ∈ led, q.1 ≠ 52 → q.1 ≠ 176 → q ∈ led') →
      (∀ i, i < s.gens.size → gens'[i]? = s.gens[i]?) → GUp s.gens gens' → Cx sw X W → sw.Perm ks → ks.Nodup → (∀ x, x ∈ ks ↔ x ∈ ws) → Q (.str (S (([120] ++ ([40] ++ X ++ [41])) ++ [121])) t) { s with heap := h', gens := gens', toks := tk, drawn := d' }) :
   wpAny (model PR w) (At dp' (some (env :: outer)) gd' un') (call (.ref 187) [.ref l, .str (S [120]) tx] [(PySem.Str.ofString "suffix", .str (S [121]) ty)]) Q E s := by
  obtain ⟨gc, G, back⟩ := ground_of (A := At dp' (some (env :: outer)) gd' un') B F N D T0 rfl hf hck
  refine ropt_spec XB TB hIn hd hm hlen hw hne G hT hl hS fun g' led' h' gens' tk d' t p1' p2' ks sw X W hT' hG h1 h3 h4 h5 hC c1 c2 c3 => ?_
  obtain ⟨g2, hT2, F2, N2, B2, D2⟩ := back g' h' led' hT' hG
  exact k g2 led' h' gens' tk d' t p1' p2' ks sw X W hT2 F2 N2 B2 D2 h1 h3 h4 h5 hC c1 c2 c3
end
end Mine
end

section
open PySem PySem.W PyProof.Rows
set_option Elab.async false
namespace Mine
def LSIG : List Nat := [98, 40, 41, 91, 93, 63, 42, 45, 124, 94, 92, 46, 36, 123, 43]
theorem lsig_item (i : Int) : ∃ c, c ≠ 121 ∧ Txt.item (PySem.Str.ofString "b()[]?*-|^\\.${+") (i.fmod 15) = S [c] := by
  have h0 : 0 ≤ i.fmod 15 := Int.fmod_nonneg_of_pos i (by decide)
  have h1 : i.fmod 15 < 15 := Int.fmod_lt_of_pos i (by decide)
  have e : PySem.Str.ofString "b()[]?*-|^\\.${+" = S LSIG := by decide +kernel
  rw [e, item_S h0 (by show i.fmod 15 < ((15 : Nat) : Int); omega)]
  refine ⟨_, ?_, rfl⟩
  have hk : ∀ k, k < 15 → LSIG.getD k 0 ≠ 121 := by decide
  exact hk _ (by omega)
theorem signs_ex (i j : Int) : ∃ z : List Nat, z.length = 3 ∧ (∀ c ∈ z, c ≠ 121) ∧ PySem.Str.ofString "a" ++ Txt.item (PySem.Str.ofString "b()[]?*-|^\\.${+") (i.fmod 15) ++ Txt.item (PySem.Str.ofString "b()[]?*-|^\\.${+") (j.fmod 15) = S z := by
  obtain ⟨c, hc, e1⟩ := lsig_item i
  obtain ⟨d, hd, e2⟩ := lsig_item j
  refine ⟨[97, c, d], rfl, ?_, ?_⟩
  · intro x hx
    simp only [List.mem_cons, List.not_mem_nil, or_false] at hx
    rcases hx with rfl | rfl | rfl
    · decide
    · exact hc
    · exact hd
  · rw [e1, e2, show PySem.Str.ofString "a" = S [97] from rfl, S_app, S_app]
    rfl
theorem fr_law {g h : Heap} {L x l : Addr} {m : PySem.Str → Option Value} {a b : Int} {t : Tok} (F : Fr g L h m) (h1 : m (PySem.Str.ofString "script") = some (.ref x))
   (h2 : m (PySem.Str.ofString "signs") = some (.str (PySem.Str.ofString "a" ++ Txt.item (PySem.Str.ofString "b()[]?*-|^\\.${+") (a.fmod 15) ++ Txt.item (PySem.Str.ofString "b()[]?*-|^\\.${+") (b.fmod 15)) t)) (h3 : m (PySem.Str.ofString "told") = some (.ref l)) :
   ∃ (z : List Nat) (t : Tok) (u : PySem.Str → Option Value), z.length = 3 ∧ (∀ c ∈ z, c ≠ 121) ∧ Fr g L h (kstB u [(PySem.Str.ofString "script", .ref x), (PySem.Str.ofString "signs", .str (S z) t), (PySem.Str.ofString "told", .ref l)]) := by
  obtain ⟨z, hz, h9, e⟩ := signs_ex a b
  rw [e] at h2
  refine ⟨z, t, m, hz, h9, fit_kstB (fun p hp => ?_) ▸ F⟩
  simp only [List.mem_cons, List.not_mem_nil, or_false] at hp
  rcases hp with rfl | rfl | rfl
  · exact h1
  · exact h2
  · exact h3
def lev (k : Int) : Nat := if k ≤ 0 then 0 else if k ≤ 3 then 1 else if k ≤ 12 then 2 else if k ≤ 39 then 3 else 4
theorem lev_step {k : Int} (h0 : 0 < k) (h1 : k ≤ 120) : lev ((k - 1) / 3) + 1 ≤ lev k := by
  unfold lev
  repeat' split
  all_goals omega
/-- the told words -/
def WordOk (x : List Nat) : Prop := x.length ≤ 5 ∧ ∀ c ∈ x, c ≠ 121
def ToldJ (T x : Addr) (z : List Nat) (t : Tok) (LED : List (Addr × Obj)) (i : Nat) (m : PySem.Str → Option Value) (led : List (Addr × Obj)) : Prop :=
  ∃ (u : PySem.Str → Option Value) (vs : List Value) (n : Nat) (ws : List (List Nat)), m = kstB u [(PySem.Str.ofString "script", .ref x), (PySem.Str.ofString "signs", .str (S z) t), (PySem.Str.ofString "told", .ref T)] ∧ led = (T, listOf (List.toArray vs) n) :: LED ∧ StrsAre vs (ws.map S) ∧ ws.length = i ∧ ∀ y ∈ ws, WordOk y
def NumJ (T x : Addr) (z : List Nat) (t : Tok) (LED : List (Addr × Obj)) (n : Nat) (m : PySem.Str → Option Value) (led : List (Addr × Obj)) : Prop :=
  ∃ (u : PySem.Str → Option Value) (k : Int) (tk : Tok) (y : List Nat) (ty : Tok), n = k.toNat ∧ 0 ≤ k ∧ k ≤ 120 ∧ y.length + lev k ≤ 4 ∧ (∀ c ∈ y, c ≠ 121) ∧ m = kstB u [(PySem.Str.ofString "script", .ref x), (PySem.Str.ofString "signs", .str (S z) t), (PySem.Str.ofString "told", .ref T), (PySem.Str.ofString "number", .int k tk), (PySem.Str.ofString "word", .str (S y) ty)] ∧ led = LED
theorem lev_le {k : Int} : lev k ≤ 4 := by unfold lev; split <;> (try split) <;> (try split) <;> (try split) <;> omega
section
variable {prog : Program} {w : World} {A : Around} {E : Value → Shared → Prop} {Q : Flow → Shared → Prop} {s : Shared} {env : Env} {h₀ : Heap} {L : Addr}
/-- what a for loop over a list needs, once the list is there -/
def ForGo (prog : Program) (w : World) (A : Around) (E : Value → Shared → Prop) (Q : Flow → Shared → Prop) (env : Env) (h₀ : Heap) (L : Addr) (x : PySem.Str) (body : List Stmt) (v : Value) (s : Shared) : Prop :=
  ∃ (l : Addr) (its : Array Value) (nl : Nat) (m : PySem.Str → Option Value) (led : List (Addr × Obj)) (J : Nat → (PySem.Str → Option Value) → List (Addr × Obj) → Prop), v = .ref l ∧ Fr h₀ L s.heap m ∧ News h₀ L s.heap led ∧ J 0 m led ∧ (∀ i m₁ led₁, J i m₁ led₁ → (l, listOf its nl) ∈ led₁ ∧ ∀ p ∈ led₁, ∃ o, (p.1, o) ∈ led) ∧
   (∀ i v m₁ led₁ h₁ tk₁ I oI, its[i]? = some v → J i m₁ led₁ → Fr h₀ L h₁ m₁ → News h₀ L h₁ ((I, oI) :: led₁) → (∀ p ∈ led₁, p.1 < I) →
      wpAny (model prog w) A (storeName env x v) (fun _ s₂ => wpAny (model prog w) A (execs body env) (ForStep h₀ L s J i I oI) E s₂) E { s with heap := h₁, toks := tk₁ }) ∧
   (∀ m₁ led₁ h₁ tk₁, J its.size m₁ led₁ → Fr h₀ L h₁ m₁ → News h₀ L h₁ led₁ → Q .next { s with heap := h₁, toks := tk₁ })
theorem for_go {x : PySem.Str} {px pos : Pos} {iter : Expr} {body : List Stmt} {m₀ : PySem.Str → Option Value} (_F : Fr h₀ L s.heap m₀) (hh : A.handled = none)
   (h : wpAny (model prog w) A (eval iter env) (ForGo prog w A E Q env h₀ L x body) E s)
   (hs : ∀ x, foldedSetIterable iter env x = pure x := by intro _; rfl) (hE : PassesOwn (model prog w) A env E := by passes_own) :
   wpAny (model prog w) A (exec (.For (.Name x px) iter body [] pos) env) Q E s := by
  refine wpAny_For (wpAny_mono h (fun xv s h₁ => ?_) fun _ _ z => z) hs
  obtain ⟨l, its, nl, m, led, J, rfl, F, N, hJ, hlJ, turn, done⟩ := h₁
  have hl := (hlJ 0 m led hJ).1
  have hll := Heap.lt_size (N _ hl).1
  refine wpAny_pyIter_list (PySem.IsL.isList (n := nl) (N.get hl)) ?_
  have hI0 : (s.heap.push { cls := .type "list_iterator", data := .fields #[.ref l, .int 0 0] }).IsListIter s.heap.objs.size l 0 := ⟨_, Heap.get?_push_size _ rfl, rfl, rfl⟩
  have N0 := News.push F N { cls := .type "list_iterator", data := .fields #[.ref l, .int 0 0] }
  have F0 := F.push { cls := .type "list_iterator", data := .fields #[.ref l, .int 0 0] }
  have hlt : ∀ p ∈ led, p.1 < s.heap.objs.size := fun p hp => Heap.lt_size (N p hp).1
  refine codeAny_forLoop (R := fun r s' => match r with | .ok f => Q f s' | .error e => cameBackBy (model prog w) A env E e s')
    (fun k s' => ∃ i m₁ led₁ h₁ tk₁ oI, s' = { s with heap := h₁, toks := tk₁ } ∧ i ≤ its.size ∧ k = its.size + 1 - i ∧ J i m₁ led₁ ∧ Fr h₀ L h₁ m₁ ∧ News h₀ L h₁ ((s.heap.objs.size, oI) :: led₁) ∧ oI.cls = .type "list_iterator" ∧ oI.data = .fields #[.ref l, .int (i : Int) 0]) ?_ (its.size + 1)
    ⟨0, m, led, _, _, _, rfl, Nat.zero_le _, rfl, hJ, F0, N0, rfl, rfl⟩
  rintro k s' ⟨i, m₁, led₁, h₁, tk₁, oI, rfl, hi, rfl, J₁, F₁, N₁, hc, hd⟩
  have hlt₁ : ∀ p ∈ led₁, p.1 < s.heap.objs.size := fun p hp => by
    obtain ⟨o, ho⟩ := (hlJ _ _ _ J₁).2 p hp
    exact hlt (p.1, o) ho
  have hit : h₁.IsListIter s.heap.objs.size l i := ⟨oI, (N₁ _ (.head _)).1, hc, hd⟩
  have hls : h₁.IsList l its := PySem.IsL.isList (n := nl) (N₁.get (.tail _ (hlJ _ _ _ J₁).1))
  have hIn := (N₁ _ (.head _)).2
  by_cases hlt : i < its.size
  · refine wpAny_pyNext_list_item hit hls (x := its[i]) (by simp [hlt]) fun h₂ hit₂ hs₂ => ?_
    replace hs₂ : Heap.SameBut s.heap.objs.size h₁ h₂ := hs₂
    obtain ⟨o₂, ho₂, hc₂, hd₂⟩ := hit₂
    have F₂ : Fr h₀ L h₂ m₁ := F₁.change hs₂ hIn.1 hIn.2
    have N₂ : News h₀ L h₂ ((s.heap.objs.size, o₂) :: led₁) := fun p hp => by
      rcases List.mem_cons.mp hp with rfl | hp
      · exact ⟨ho₂, hIn⟩
      · exact ⟨hs₂.extBut _ _ (Nat.ne_of_lt (hlt₁ p hp)) (N₁ p (.tail _ hp)).1, (N₁ p (.tail _ hp)).2⟩
    refine wpAny_passesOwn hE (wpAny_assign_Name (wpAny_mono (turn i its[i] m₁ led₁ h₂ _ _ o₂ (by simp [hlt]) J₁ F₂ N₂ hlt₁) (fun _ s₂ h₂ => ?_) fun _ _ z => z))
    refine wpAny_passesOwn hE (wpAny_mono h₂ (fun f s₃ h₃ => ?_) fun _ _ z => z)
    obtain ⟨rfl, h', tk', m₂, led₂, rfl, F₃, N₃, J₃⟩ := h₃
    exact ⟨its.size + 1 - (i + 1), by omega, i + 1, m₂, led₂, h', tk', o₂, rfl, hlt, rfl, J₃, F₃, N₃, hc₂, hd₂⟩
  · have hi' : i = its.size := by omega
    subst hi'
    refine wpAny_pyNext_list_end hh hit hls (by simp) fun h₂ hs₂ => ?_
    replace hs₂ : Heap.ExtBut s.heap.objs.size h₁ h₂ := hs₂
    refine wpAny_execs_nil (done m₁ led₁ h₂ _ J₁ ⟨F₁.ns.extBut hs₂ (Ne.symm hIn.1), fun b o e => hs₂ b o (fun q => by rw [q, hIn.2] at e; cases e) (F₁.keep b o e), F₁.above⟩ fun p hp => ⟨hs₂ _ _ (Nat.ne_of_lt (hlt₁ p hp)) (N₁ p (.tail _ hp)).1, (N₁ p (.tail _ hp)).2⟩)
theorem ints_at : ∀ {vs : List Value} {xs : List Int} {i : Nat} {v : Value}, IntsAre vs xs → vs[i]? = some v → ∃ x t, v = .int x t
  | _, _, _, _, .nil, h => by simp at h
  | _, _, 0, _, .cons _ _ _, h => by simp at h; exact ⟨_, _, h.symm⟩
  | _, _, i + 1, _, .cons _ _ r, h => ints_at r (by simpa using h)
theorem told_go {x : PySem.Str} {body : List Stmt} {D T X : Addr} {vs : List Value} {a1 a2 a3 a4 c p q : Addr × Obj} {z : List Nat} {t : Tok} {u : PySem.Str → Option Value} {xs : List Int}
   (F : Fr h₀ L s.heap (kstB u [(PySem.Str.ofString "script", .ref X), (PySem.Str.ofString "signs", .str (S z) t), (PySem.Str.ofString "told", .ref T)])) (N : News h₀ L s.heap [(D, listOf vs.toArray 0), a1, a2, (T, listOf #[] 0), a3, a4, c, p, q]) (hI : IntsAre vs xs)
   (turn : ∀ i (xv : Int) (xt : Tok) u vs' n (ws : List (List Nat)) h₁ tk₁ I oI, i < vs.length → StrsAre vs' (ws.map S) → ws.length = i → (∀ y ∈ ws, WordOk y) → Fr h₀ L h₁ (kstB u [(PySem.Str.ofString "script", .ref X), (PySem.Str.ofString "signs", .str (S z) t), (PySem.Str.ofString "told", .ref T)]) →
      News h₀ L h₁ ((I, oI) :: (T, listOf (List.toArray vs') n) :: [(D, listOf vs.toArray 0), c, p, q]) → (@LT.lt Nat _ T I ∧ @LT.lt Nat _ D I ∧ @LT.lt Nat _ c.1 I ∧ @LT.lt Nat _ p.1 I ∧ @LT.lt Nat _ q.1 I) →
      wpAny (model prog w) A (storeName env x (.int xv xt)) (fun _ s₂ => wpAny (model prog w) A (execs body env) (ForStep h₀ L s (ToldJ T X z t [(D, listOf vs.toArray 0), c, p, q]) i I oI) E s₂) E { s with heap := h₁, toks := tk₁ })
   (done : ∀ u vs' n (ws : List (List Nat)) h₁ tk₁, StrsAre vs' (ws.map S) → ws.length = vs.length → (∀ y ∈ ws, WordOk y) → Fr h₀ L h₁ (kstB u [(PySem.Str.ofString "script", .ref X), (PySem.Str.ofString "signs", .str (S z) t), (PySem.Str.ofString "told", .ref T)]) →
      News h₀ L h₁ ((T, listOf (List.toArray vs') n) :: [(D, listOf vs.toArray 0), c, p, q]) → Q .next { s with heap := h₁, toks := tk₁ }) :
   ForGo prog w A E Q env h₀ L x body (.ref D) s := by
  refine ⟨D, vs.toArray, 0, _, [(T, listOf #[] 0), (D, listOf vs.toArray 0), c, p, q], ToldJ T X z t [(D, listOf vs.toArray 0), c, p, q], rfl, F, fun a ha => N a ?_, ⟨u, [], 0, [], rfl, rfl, .nil, rfl, fun y hy => by cases hy⟩, ?_, ?_, ?_⟩
  · simp only [List.mem_cons, List.not_mem_nil, or_false] at ha ⊢
    rcases ha with rfl | rfl | rfl | rfl | rfl <;> simp
  · rintro i m₁ led₁ ⟨u, vs', n, ws, -, rfl, -, -, -⟩
    refine ⟨by simp, fun a ha => ?_⟩
    rcases List.mem_cons.mp ha with rfl | ha
    · exact ⟨_, .head _⟩
    · exact ⟨_, .tail _ ha⟩
  · rintro i v m₁ led₁ h₁ tk₁ I oI hv ⟨u, vs', n, ws, rfl, rfl, hs, hl, hw⟩ F₁ N₁ hlt
    rw [List.getElem?_toArray] at hv
    obtain ⟨xv, xt, rfl⟩ := ints_at hI hv
    exact turn i xv xt u vs' n ws h₁ tk₁ I oI (List.getElem?_eq_some_iff.mp hv).1 hs hl hw F₁ N₁ ⟨hlt (T, _) (.head _), hlt (D, _) (.tail _ (.head _)), hlt c (.tail _ (.tail _ (.head _))), hlt p (.tail _ (.tail _ (.tail _ (.head _)))), hlt q (.tail _ (.tail _ (.tail _ (.tail _ (.head _)))))⟩
  · rintro m₁ led₁ h₁ tk₁ ⟨u, vs', n, ws, rfl, rfl, hs, hl, hw⟩ F₁ N₁
    exact done u vs' n ws h₁ tk₁ hs (by rw [hl, List.size_toArray]) hw F₁ N₁
theorem NumJ.start {T x : Addr} {z : List Nat} {t tk ty : Tok} {LED : List (Addr × Obj)} {m : PySem.Str → Option Value} {xv : Int} (h1 : m (PySem.Str.ofString "script") = some (.ref x)) (h2 : m (PySem.Str.ofString "signs") = some (.str (S z) t)) (h3 : m (PySem.Str.ofString "told") = some (.ref T))
   (h4 : m (PySem.Str.ofString "number") = some (.int (xv.fmod 121) tk)) (h5 : m (PySem.Str.ofString "word") = some (.str (PySem.Str.ofString "") ty)) : NumJ T x z t LED (xv.fmod 121).toNat m LED := by
  refine ⟨m, xv.fmod 121, tk, [], ty, rfl, Int.fmod_nonneg_of_pos _ (by decide), (by have := Int.fmod_lt_of_pos xv (b := 121) (by decide); omega), (by have := @lev_le (xv.fmod 121); simp only [List.length_nil]; omega), (fun c hc => by cases hc), fit_kstB fun q hq => ?_, rfl⟩
  simp only [List.mem_cons, List.not_mem_nil, or_false] at hq
  rcases hq with rfl | rfl | rfl | rfl | rfl
  · exact h1
  · exact h2
  · exact h3
  · exact h4
  · exact h5
theorem NumJ.step {h' : Heap} {T x : Addr} {z y : List Nat} {t tk ty : Tok} {LED : List (Addr × Obj)} {m : PySem.Str → Option Value} {k : Int} {tks : Nat} (F : Fr h₀ L h' m) (N : News h₀ L h' LED) (hz : z.length = 3) (hz9 : ∀ c ∈ z, c ≠ 121) (hk0 : 0 ≤ k) (hk1 : k ≤ 120) (hkn : k ≠ 0) (hy : y.length + lev k ≤ 4) (hy9 : ∀ c ∈ y, c ≠ 121)
   (h1 : m (PySem.Str.ofString "script") = some (.ref x)) (h2 : m (PySem.Str.ofString "signs") = some (.str (S z) t)) (h3 : m (PySem.Str.ofString "told") = some (.ref T))
   (h4 : m (PySem.Str.ofString "number") = some (.int ((k - 1).fdiv 3) tk)) (h5 : m (PySem.Str.ofString "word") = some (.str (Txt.item (S z) ((k - 1).fmod 3) ++ S y) ty)) :
   WhileStep h₀ L s (NumJ T x z t LED) k.toNat .next { s with heap := h', toks := tks } := by
  have e3 : (k - 1).fdiv 3 = (k - 1) / 3 := Int.fdiv_eq_ediv_of_nonneg _ (by decide)
  have hf0 : 0 ≤ (k - 1).fmod 3 := Int.fmod_nonneg_of_pos _ (by decide)
  have hf1 : (k - 1).fmod 3 < 3 := Int.fmod_lt_of_pos _ (by decide)
  have hst := lev_step (k := k) (by omega) hk1
  have hi : ((k - 1).fmod 3).toNat < z.length := by omega
  rw [item_S hf0 (by rw [hz]; exact hf1), S_app] at h5
  rw [e3] at h4
  have a1 : ([z.getD ((k - 1).fmod 3).toNat 0] ++ y).length + lev ((k - 1) / 3) ≤ 4 := by simp only [List.length_append, List.length_cons, List.length_nil]; omega
  have a2 : ∀ c ∈ [z.getD ((k - 1).fmod 3).toNat 0] ++ y, c ≠ 121 := by
    intro c hc
    rcases List.mem_append.mp hc with hc | hc
    · rw [List.mem_singleton.mp hc, List.getD_eq_getElem?_getD, List.getElem?_eq_getElem hi]
      exact hz9 _ (List.getElem_mem hi)
    · exact hy9 c hc
  have a3 : m = kstB m [(PySem.Str.ofString "script", .ref x), (PySem.Str.ofString "signs", .str (S z) t), (PySem.Str.ofString "told", .ref T), (PySem.Str.ofString "number", .int ((k - 1) / 3) tk), (PySem.Str.ofString "word", .str (S ([z.getD ((k - 1).fmod 3).toNat 0] ++ y)) ty)] := fit_kstB fun q hq => by
    simp only [List.mem_cons, List.not_mem_nil, or_false] at hq
    rcases hq with rfl | rfl | rfl | rfl | rfl
    · exact h1
    · exact h2
    · exact h3
    · exact h4
    · exact h5
  have a4 : 0 ≤ (k - 1) / 3 := by omega
  have a5 : (k - 1) / 3 ≤ 120 := by omega
  have a6 : ((k - 1) / 3).toNat < k.toNat := by omega
  exact WhileStep.intro F N a6 ⟨m, (k - 1) / 3, tk, _, ty, rfl, a4, a5, a1, a2, a3, rfl⟩
theorem ToldJ.step {h' : Heap} {T x I : Addr} {oI : Obj} {z y : List Nat} {t ty : Tok} {vs : List Value} {ws : List (List Nat)} {LED : List (Addr × Obj)} {m : PySem.Str → Option Value} {i n tks : Nat} (F : Fr h₀ L h' m) (N : News h₀ L h' ((I, oI) :: (T, listOf (vs.toArray.push (.str (S y) ty)) n) :: LED))
   (hs : StrsAre vs (ws.map S)) (hl : ws.length = i) (hw : ∀ y ∈ ws, WordOk y) (hy : y.length ≤ 4) (hy9 : ∀ c ∈ y, c ≠ 121)
   (h1 : m (PySem.Str.ofString "script") = some (.ref x)) (h2 : m (PySem.Str.ofString "signs") = some (.str (S z) t)) (h3 : m (PySem.Str.ofString "told") = some (.ref T)) :
   ForStep h₀ L s (ToldJ T x z t LED) i I oI .next { s with heap := h', toks := tks } := by
  refine ForStep.of F N (fun _ h => h) ⟨m, vs ++ [.str (S y) ty], n, ws ++ [y], fit_kstB fun q hq => ?_, ?_, ?_, ?_, ?_⟩
  · simp only [List.mem_cons, List.not_mem_nil, or_false] at hq
    rcases hq with rfl | rfl | rfl
    · exact h1
    · exact h2
    · exact h3
  · rw [List.push_toArray]
  · rw [List.map_append]
    exact StrsAre.append' hs (.cons _ _ .nil)
  · rw [List.length_append, hl]; rfl
  · intro q hq
    rcases List.mem_append.mp hq with hq | hq
    · exact hw q hq
    · rw [List.mem_singleton.mp hq]
      exact ⟨by omega, hy9⟩
end
end Mine
end

section
open PySem PySem.W PyProof.Rows
set_option Elab.async false
namespace Mine
section
local macro_rules | `(tactic| k_all) => `(tactic| with_reducible assumption)
local macro_rules | `(tactic| walk_at "callWith") => `(tactic| ((try dsimp only); (with_reducible show wpAny _ _ (callWith _ (Value.builtin "list.append") (_ :: _) _ _) _ _ _); refine callWith_method1 ?_))
local macro_rules | `(tactic| size_fits) => `(tactic| exact Nat.le_of_ble_eq_true rfl)
local macro_rules | `(tactic| walk_at "ite") => `(tactic| first | refine ite_no (by with_reducible assumption) ?_ | refine ite_yes (by with_reducible assumption) ?_)
local macro_rules | `(tactic| k_steps) => `(tactic| repeat' ((fail_if_success (with_reducible show wpAny _ _ (exec (Stmt.While _ _ _ _) _) _ _ _)); (fail_if_success (with_reducible show wpAny _ _ (subscriptTail (Expr.Name (PySem.Str.ofString "frames") _) _ _ _) _ _ _)); (fail_if_success (with_reducible show wpAny _ _ (call (Value.ref 192) _) _ _ _)); (fail_if_success (with_reducible show wpAny _ _ (binaryOp Operator.Add (Value.ref _) (Value.ref _)) _ _ _)); (fail_if_success (with_reducible show wpAny _ _ (setItem _ _ _) _ _ _)); (fail_if_success (with_reducible show wpAny _ _ (call (Value.builtin "list.append") _) _ _ _)); (fail_if_success (with_reducible show wpAny _ _ (call (Value.builtin "list.pop") _) _ _ _)); first | (k_unfold; (try dsimp only)) | (k_end; wrow_close) | walk1 | (dsimp only; walk1) | (leave1; walk_say "STEP leave1"; try dsimp only) | fail "no step"))
local macro_rules | `(tactic| ksw_less) => `(tactic| repeat' ((fail_if_success (with_reducible show wpAny _ _ (execs (Stmt.If _ _ _ _ :: _) _) _ _ _)); (fail_if_success (with_reducible show wpAny _ _ (exec (Stmt.While _ _ _ _) _) _ _ _)); (fail_if_success (with_reducible show wpAny _ _ (subscriptTail (Expr.Name (PySem.Str.ofString "frames") _) _ _ _) _ _ _)); (fail_if_success (with_reducible show wpAny _ _ (call (Value.ref 192) _) _ _ _)); (fail_if_success (with_reducible show wpAny _ _ (binaryOp Operator.Add (Value.ref _) (Value.ref _)) _ _ _)); (fail_if_success (with_reducible show wpAny _ _ (setItem _ _ _) _ _ _)); (fail_if_success (with_reducible show wpAny _ _ (call (Value.builtin "list.append") _) _ _ _)); (fail_if_success (with_reducible show wpAny _ _ (call (Value.builtin "list.pop") _) _ _ _)); first | (k_unfold; (try dsimp only)) | (k_end; wrow_close) | walk1 | (dsimp only; walk1) | (leave1; walk_say "STEP leave1"; try dsimp only) | fail "no step"))
set_option maxRecDepth 100000 in
set_option maxHeartbeats 8000000 in
theorem unf_spec {w : World} {dp un : Nat} {fr : Option (List Env)} {gd : Option (List Code)} {s : Shared} {Q E : Value → Shared → Prop} {pat : List Nat} {tp : Tok} {out : List (List Nat)} {loose : List PySem.Str} {mean : ExcName → Option Value} {mg mb : PySem.Str → Option Value}
   (X : (KF w).In s.heap) (T : Top PySem.W.topProg loose mean mg mb s.heap) (hd : dp < 800) (hn : pat.length ≤ 100000) (hU : Unf pat [([], [[]], [[]])] out)
   (k : ∀ h' tk D vs' n, h'.get? D = some (listOf (List.toArray vs') n) → s.heap.get? D = none → StrsAre vs' (out.map S) → s.heap.StaysIn h' → Q (.ref D) { s with heap := h', toks := tk })
   : wpAny (model PR w) (At dp fr gd un) (call (.ref 199) [.str (S pat) tp]) Q E s := by
  delta PR KF at *
  revert X; k_fill; intro X
  refine wpAny_call ?_
  k_dflt (refine' enter_fn [] (fun _ h => nomatch h) X T.nolimit ?k6 ?k7 ?k8 ?k9 ?kB ?_ ?c2 ?c3 ?c4 ?c5; (case k6 => k_is); (case k7 => k_is); (case k8 => (simp only [recursionLimit]; omega)); (case k9 => exact BindsTo.of_eq rfl); (case kB => exact locs rfl); (case c2 => exact rfl); (case c3 => exact rfl); (case c4 => exact rfl); (case c5 => decide); k_whole)
  intro L h₁ hL F' N'
  simp only [List.map_nil, hideAll] at F' N'
  have hn' : (S pat).length ≤ 100000 := by rw [S_len]; exact hn
  ksw_less
  rename (Fr _ _ _ _) => F1
  rename (News _ _ _ _) => N1
  refine While_inv (UnfJ pat out tp) F1 N1 (UnfJ.start hU rfl rfl rfl rfl rfl (by omega) (by omega) (by omega) (by omega)) ?turn
  clear F1 N1
  rintro n m₁ news₁ h₂ tk₂ F2 N2 ⟨pl, tq, fa, vs, nf, rest, fs, u, rfl, hpl, rfl, hoff, hfs, hfl, hU2, rfl⟩
  obtain ⟨d, a, l, fs', rfl⟩ := hU2.ne
  obtain ⟨vi, t, rfl, hvi, x, y, z, nt, mt, ⟨vx, nx, mx, sx⟩, ⟨vy, ny, my, sy⟩, ⟨vz, nz, mz, sz⟩⟩ := hfs.top
  dsimp only at sx sy sz
  ksw_less
  · rename (_ < _) => hlt
    rename (Fr _ _ _ _) => F3
    rename (News _ _ _ _) => N3
    refine item_last (vi := vi) (v := .ref t) (PySem.IsL.isList (N3.get (.head _))) ?_
    refine kun_list F3 N3 (PySem.IsL.isList (N3.get (.tail _ mt))) rfl rfl rfl fun h₃ F3 N3 => ?_
    k_sweep
    ksw_less
    rename (Fr _ _ _ _) => F4
    rename (News _ _ _ _) => N4
    dsimp only
    generalize hr : pat.drop pl = r at hU2
    have Hend : ∀ {c r'}, pat.drop pl = c :: r' → True := fun _ => trivial
    cases hU2
    case fin =>
      exfalso
      have hz := congrArg List.length hr
      simp only [List.length_drop, List.length_nil] at hz
      rw [S_len] at hlt
      omega
    case opn r' hne hU3 =>
      obtain ⟨_, hit, hdr⟩ := drop_cons hr
      simp only [hit] at F4
      have hsl : Txt.slice (S pat) (some ((pl : Int) + 1)) (some ((pl : Int) + 1 + 2)) = S (r'.take 2) := drop_two hdr 2
      k_steps
      · exfalso
        rename (_ == _) = true => hq
        rw [hsl] at hq
        exact hne (S_inj (by simpa using hq : S (List.take 2 r') = PySem.Str.ofString "?:"))
      · refine append_K (by with_reducible assumption) (by with_reducible assumption) (by k_upd) (fun h₅ F5 N5 => ?_) (by have := hvi.length; simp only [List.size_toArray, List.length_append, List.length_cons, List.length_nil, sizeLine] at hfl ⊢; omega)
        k_sweep
        k_steps
        exact unf_open F5 N5 hoff hfs (by omega) (by omega) (by omega) (by omega) (hdr ▸ hU3) (by omega) (by omega) (by simpa using hfl) rfl rfl rfl (by omega)
    case opc r' hU3 =>
      obtain ⟨_, hit, hdr⟩ := drop_cons hr
      simp only [hit] at F4
      have hsl : Txt.slice (S pat) (some ((pl : Int) + 1)) (some ((pl : Int) + 1 + 2)) = S [63, 58] := drop_two hdr 2
      have hd3 : pat.drop (pl + 3) = r' := by rw [show pl + 3 = (pl + 1) + 2 by omega, ← List.drop_drop, hdr]; rfl
      have hd4 : pl + 3 ≤ pat.length := by
        have := congrArg List.length hdr
        simp only [List.length_drop, List.length_cons] at this
        omega
      k_steps
      · refine append_K (by with_reducible assumption) (by with_reducible assumption) (by k_upd) (fun h₅ F5 N5 => ?_) (by have := hvi.length; simp only [List.size_toArray, List.length_append, List.length_cons, List.length_nil, sizeLine] at hfl ⊢; omega)
        k_sweep
        k_steps
        exact unf_open (pl := pl + 3) F5 N5 hoff hfs (by omega) (by omega) (by omega) (by omega) (hd3 ▸ hU3) (by omega) (by omega) (by simp only [List.length_cons] at hfl ⊢; omega) rfl rfl rfl (by omega)
      · exfalso
        rename (_ == _) = false => hq
        rw [hsl] at hq
        exact absurd hq (by decide)
    case bar r' hd' ha' hl' hU3 =>
      obtain ⟨_, hit, hdr⟩ := drop_cons hr
      simp only [hit] at F4
      k_steps
      refine joined_N X T (by show dp + 1 < 900; omega) (by with_reducible assumption) (by with_reducible assumption) (.tail _ my) (.tail _ mz) sy sz ha' hl' fun D1 vs1 n1 h5 tk5 F5 N5 l5 s5 c5 => ?_
      k_lt l5
      k_sweep
      k_steps
      have hlx : vx.length = d.length := by simpa using StrsAre.length sx
      have hd1 := hd'.1
      refine add_N F5 N5 (.tail _ (.tail _ mx)) (.head _) (by omega) fun D2 h6 F6 N6 l6 => ?_
      k_lt l6
      k_sweep
      k_steps
      dsimp only
      have hvl := hvi.length
      simp only [List.length_cons] at hfl
      refine set_top (vi := vi) (t := t) (by with_reducible assumption) (by with_reducible assumption) (by k_upd) (by omega) fun h7 F7 N7 => ?_
      k_sweep
      k_steps
      exact unf_set (vi := vi) F7 N7 (.tail _ (.tail _ (.tail _ (.tail _ (.tail _ (.head _)))))) (.head _) (by k_ne) (fun p hp => by simp [hp]) hoff hvi
        ⟨_, _, mem_but (.tail _ (.tail _ (.tail _ (.head _)))) (by k_ne), by rw [List.map_append]; exact sx.append' s5⟩ ⟨_, _, mem_but (.tail _ (.tail _ (.head _))) (by k_ne), .cons _ _ .nil⟩ ⟨_, _, mem_but (.tail _ (.head _)) (by k_ne), .cons _ _ .nil⟩
        (hdr ▸ hU3) (by omega) (by omega) (by omega) rfl rfl rfl (by omega)
    case opt r' hne hd' ha' hl' hU3 =>
      obtain ⟨_, hit, hdr⟩ := drop_cons hr
      simp only [hit] at F4
      have hsl : Txt.slice (S pat) (some ((pl : Int) + 1)) (some ((pl : Int) + 1 + 1)) = S (r'.take 1) := drop_two hdr 1
      k_steps
      · exfalso
        rename (_ == _) = true => hq
        rw [hsl] at hq
        exact hne (S_inj (by simpa using hq : S (List.take 1 r') = PySem.Str.ofString "?"))
      · have hlz : vz.length = l.length := by simpa using StrsAre.length sz
        have hl1 := hl'.1
        refine add_N (by with_reducible assumption) (by with_reducible assumption) (.tail _ (.tail _ mz)) (.head _) (by simp only [List.length_cons, List.length_nil]; omega) fun D2 h6 F6 N6 l6 => ?_
        k_lt l6
        k_sweep
        k_steps
        dsimp only
        have hvl := hvi.length
        simp only [List.length_cons] at hfl
        refine set_top (vi := vi) (t := t) (by with_reducible assumption) (by with_reducible assumption) (by k_upd) (by omega) fun h7 F7 N7 => ?_
        k_sweep
        k_steps
        exact unf_set (vi := vi) F7 N7 (.tail _ (.tail _ (.tail _ (.head _)))) (.head _) (by k_ne) (fun p hp => by simp [hp]) hoff hvi
          ⟨_, _, mem_but (.tail _ (.tail _ (.tail _ (.tail _ mx)))) (hoff _ mx), sx⟩ ⟨_, _, mem_but (.tail _ (.tail _ (.tail _ (.tail _ my)))) (hoff _ my), sy⟩ ⟨_, _, mem_but (.tail _ (.head _)) (by k_ne), by rw [List.map_append]; exact sz.append' (.cons _ _ .nil)⟩
          (hdr ▸ hU3) (by omega) (by omega) (by omega) rfl rfl rfl (by omega)
    case cls r' d2 a2 l2 fs2 hd2 ha2 hl2 hd' ha' hl' hU3 =>
      obtain ⟨_, hit, hdr⟩ := drop_cons hr
      simp only [hit] at F4
      obtain ⟨vi2, t2, rfl, hvi2, x2, y2, z2, nt2, mt2, ⟨vx2, nx2, mx2, sx2⟩, ⟨vy2, ny2, my2, sy2⟩, ⟨vz2, nz2, mz2, sz2⟩⟩ := hvi.top
      dsimp only at sx2 sy2 sz2
      have e7 := no_stop (c := 41) (by decide)
      k_steps
      refine joined_N X T (by show dp + 1 < 900; omega) (by with_reducible assumption) (by with_reducible assumption) (.tail _ my) (.tail _ mz) sy sz ha' hl' fun D1 vs1 n1 h5 tk5 F6 N6 l5 s5 c5 => ?_
      k_lt l5
      k_sweep
      k_steps
      have hlx : vx.length = d.length := by simpa using StrsAre.length sx
      have hd1 := hd'.1
      refine add_N (by with_reducible assumption) (by with_reducible assumption) (.tail _ (.tail _ mx)) (.head _) (by omega) fun D2 h6 F6 N6 l6 => ?_
      k_lt l6
      k_sweep
      k_steps
      dsimp only
      have hvl := hvi2.length
      simp only [List.length_cons] at hfl
      refine pop_top (vi := vi2 ++ [.ref t2]) (y := .ref t) (by with_reducible assumption) (by with_reducible assumption) (by k_upd) (by simp only [List.length_append, List.length_cons, List.length_nil]; omega) fun h7 F7 N7 => ?_
      k_sweep
      k_steps
      rename (Fr _ _ _ _) => F5
      rename (News _ _ _ _) => N5
      refine item_last (vi := vi2) (v := .ref t2) (PySem.IsL.isList (N5.get (.tail _ (.tail _ (.head _))))) ?_
      refine kun_list F5 N5 (PySem.IsL.isList (N5.get (.tail _ (.tail _ (.tail _ mt2))))) rfl rfl rfl fun h₃ F5 N5 => ?_
      k_sweep
      k_steps
      refine joined_N X T (by show dp + 1 < 900; omega) (by with_reducible assumption) (by with_reducible assumption) (.tail _ (.tail _ (.tail _ my2))) (.tail _ (.tail _ (.tail _ mz2))) sy2 sz2 ha2 hl2 fun D3 vs3 n3 h5 tk5 F6 N6 l7 s7 c7 => ?_
      k_lt l7
      k_sweep
      k_steps
      dsimp only
      refine set_top (vi := vi2) (t := t2) (by with_reducible assumption) (by with_reducible assumption) (by k_upd) (by omega) fun h7 F7 N7 => ?_
      k_sweep
      k_steps
      exact unf_set (vi := vi2) F7 N7 (.tail _ (.tail _ (.tail _ (.tail _ (.head _))))) (.head _) (by k_ne) (fun p hp => by simp [hp]) hoff hvi2
        ⟨_, _, mem_but (.tail _ (.tail _ (.tail _ (.tail _ (.tail _ mx2))))) (hoff _ mx2), sx2⟩ ⟨_, _, mem_but (.tail _ (.head _)) (by k_ne), s7⟩ ⟨_, _, mem_but (.tail _ (.tail _ (.head _))) (by k_ne), by rw [List.map_append]; exact sx.append' s5⟩
        (hdr ▸ hU3) (by omega) (by omega) (by omega) rfl rfl rfl (by omega)
    case set r' cs hcs hd' ha' hl' hU3 =>
      obtain ⟨_, hit, hdr⟩ := drop_cons hr
      simp only [hit] at F4
      have e7 := no_stop (c := 91) (by decide)
      k_steps
      rename (_ ∧ AllLt _ rest) => l1
      have hoffP := allLt_ne l1.2
      rename (Fr _ _ _ _) => F5
      rename (News _ _ _ _) => N5
      refine While_inv (ClsJ pat tp pl _ fa (vi ++ [.ref t]) nf rest cs r') F5 N5 (ClsJ.start hdr rfl rfl rfl rfl) ?_
      clear F5 N5
      rintro n m₁ news₁ h₄ tk₄ F5 N5 ⟨pl2, tq2, vp, np, cs1, cs2, u2, rfl, rfl, rfl, hpl2, hdr2, hS, rfl⟩
      cases cs2 with
      | nil =>
        obtain ⟨hlt2, hit2, hdr3⟩ := drop_cons (show pat.drop pl2 = 93 :: r' from hdr2)
        have hlt3 : (pl2 : Int) < ((S pat).length : Int) := by rw [S_len]; omega
        have e1 : (Txt.item (S pat) (pl2 : Int) != PySem.Str.ofString "]") = false := by rw [hit2]; decide
        k_steps
        rename (Fr _ _ _ _) => F5
        rename (News _ _ _ _) => N5
        refine item_last (vi := vi) (v := .ref t) (PySem.IsL.isList (N5.get (.tail _ (.head _)))) ?_
        refine kun_list F5 N5 (PySem.IsL.isList (N5.get (.tail _ (.tail _ mt)))) rfl rfl rfl fun h₃ F5 N5 => ?_
        k_sweep
        k_steps
        refine joined_N X T (by show dp + 1 < 900; omega) (by with_reducible assumption) (by with_reducible assumption) (.tail _ (.tail _ my)) (.tail _ (.tail _ mz)) sy sz ha' hl' fun D1 vs1 n1 h5 tk5 F6 N6 l5 s5 c5 => ?_
        k_lt l5
        k_sweep
        k_steps
        dsimp only
        have hvl := hvi.length
        simp only [List.length_cons] at hfl
        refine set_top (vi := vi) (t := t) (by with_reducible assumption) (by with_reducible assumption) (by k_upd) (by omega) fun h7 F7 N7 => ?_
        k_sweep
        k_steps
        rw [List.append_nil] at hU3
        exact unf_set (vi := vi) F7 N7 (.tail _ (.tail _ (.tail _ (.head _)))) (.head _) (by k_ne) (fun p hp => by simp [hp]) hoff hvi
          ⟨_, _, mem_but (.tail _ (.tail _ (.tail _ (.tail _ mx)))) (hoff _ mx), sx⟩ ⟨_, _, mem_but (.tail _ (.head _)) (by k_ne), s5⟩ ⟨_, _, mem_but (.tail _ (.tail _ (.head _))) (by k_ne), hS⟩
          (pl := pl2 + 1) (hdr3 ▸ hU3) (by omega) (by omega) (by omega) rfl rfl rfl (by omega)
      | cons c cs2 =>
        by_cases hm : marks.contains c = true
        · rw [encL_mark hm] at hdr2
          obtain ⟨hlt2, hit2, hdr3⟩ := drop_cons hdr2
          obtain ⟨hlt2', hit3, hdr4⟩ := drop_cons hdr3
          have hit3 : Txt.item (S pat) ((pl2 : Int) + 1) = S [c] := hit3
          have hlt3 : (pl2 : Int) < ((S pat).length : Int) := by rw [S_len]; omega
          have hlt4 : (pl2 : Int) + 1 < ((S pat).length : Int) := by rw [S_len]; omega
          have e1 : (Txt.item (S pat) (pl2 : Int) != PySem.Str.ofString "]") = true := by rw [hit2]; decide
          have e2 : (!(Builtin.Str.occurrences (PySem.Str.ofString "^-[") (Txt.item (S pat) (pl2 : Int)) 0 (PySem.Str.ofString "^-[").length 1).isEmpty) = false := by rw [hit2]; exact no_mark (by decide)
          have e3 : (Txt.item (S pat) (pl2 : Int) == PySem.Str.ofString "\\") = true := by rw [hit2]; decide
          k_steps
          have hvp := StrsAre.length hS
          simp only [List.length_map] at hvp
          simp only [List.length_append, List.length_cons] at hcs
          refine append_K (by with_reducible assumption) (by with_reducible assumption) (by k_upd) (fun h₅ F6 N6 => ?_) (by simp only [List.size_toArray, sizeLine]; omega)
          k_sweep
          k_steps
          exact cls_end (pl2 := pl2 + 2) (by with_reducible assumption) (by with_reducible assumption) rfl hit3 (by omega) hdr4 hS rfl rfl rfl rfl rfl (by omega)
        · rw [encL_plain hm] at hdr2
          obtain ⟨hlt2, hit2, hdr3⟩ := drop_cons hdr2
          have hlt3 : (pl2 : Int) < ((S pat).length : Int) := by rw [S_len]; omega
          have hm' : c ∉ marks := by simpa using hm
          simp only [marks, List.mem_cons, List.not_mem_nil, or_false, not_or] at hm'
          have e1 : (Txt.item (S pat) (pl2 : Int) != PySem.Str.ofString "]") = true := by rw [hit2]; exact S_two hm'.2.2.2.2
          have e2 : (!(Builtin.Str.occurrences (PySem.Str.ofString "^-[") (Txt.item (S pat) (pl2 : Int)) 0 (PySem.Str.ofString "^-[").length 1).isEmpty) = false := by
            rw [hit2]; exact no_mark (by simp only [List.mem_cons, List.not_mem_nil, or_false]; omega)
          have e3 : (Txt.item (S pat) (pl2 : Int) == PySem.Str.ofString "\\") = false := by rw [hit2]; exact S_one hm'.2.2.1
          k_steps
          have hvp := StrsAre.length hS
          simp only [List.length_map] at hvp
          simp only [List.length_append, List.length_cons] at hcs
          refine append_K (by with_reducible assumption) (by with_reducible assumption) (by k_upd) (fun h₅ F6 N6 => ?_) (by simp only [List.size_toArray, sizeLine]; omega)
          k_sweep
          k_steps
          exact cls_end (pl2 := pl2 + 1) (by with_reducible assumption) (by with_reducible assumption) rfl hit2 (by omega) hdr3 hS rfl rfl rfl rfl rfl (by omega)
    case esc r' c hd' ha' hl' hU3 =>
      obtain ⟨_, hit, hdr⟩ := drop_cons hr
      obtain ⟨hlt2, hit2, hdr2⟩ := drop_cons hdr
      simp only [hit] at F4
      have e7 := no_stop (c := 92) (by decide)
      have hit2 : Txt.item (S pat) ((pl : Int) + 1) = S [c] := hit2
      have hlt3 : (pl : Int) + 1 < ((S pat).length : Int) := by rw [S_len]; omega
      k_steps
      rename (Fr _ _ _ _) => F5
      rename (News _ _ _ _) => N5
      refine item_last (vi := vi) (v := .ref t) (PySem.IsL.isList (N5.get (.tail _ (.head _)))) ?_
      refine kun_list F5 N5 (PySem.IsL.isList (N5.get (.tail _ (.tail _ mt)))) rfl rfl rfl fun h₃ F5 N5 => ?_
      k_sweep
      k_steps
      refine joined_N X T (by show dp + 1 < 900; omega) (by with_reducible assumption) (by with_reducible assumption) (.tail _ (.tail _ my)) (.tail _ (.tail _ mz)) sy sz ha' hl' fun D1 vs1 n1 h5 tk5 F6 N6 l5 s5 c5 => ?_
      k_lt l5
      k_sweep
      k_steps
      dsimp only
      have hvl := hvi.length
      simp only [List.length_cons] at hfl
      refine set_top (vi := vi) (t := t) (by with_reducible assumption) (by with_reducible assumption) (by k_upd) (by omega) fun h7 F7 N7 => ?_
      k_sweep
      k_steps
      exact unf_set (vi := vi) F7 N7 (.tail _ (.tail _ (.tail _ (.head _)))) (.head _) (by k_ne) (fun p hp => by simp [hp]) hoff hvi
        ⟨_, _, mem_but (.tail _ (.tail _ (.tail _ (.tail _ mx)))) (hoff _ mx), sx⟩ ⟨_, _, mem_but (.tail _ (.head _)) (by k_ne), s5⟩ ⟨_, _, mem_but (.tail _ (.tail _ (.head _))) (by k_ne), by rw [hit2]; exact .cons _ _ .nil⟩
        (pl := pl + 2) (hdr2 ▸ hU3) (by omega) (by omega) (by omega) rfl rfl rfl (by omega)
    case lit r' c hc hd' ha' hl' hU3 =>
      obtain ⟨_, hit, hdr⟩ := drop_cons hr
      simp only [hit] at F4
      simp only [List.mem_cons, List.not_mem_nil, or_false, not_or] at hc
      obtain ⟨c1, c2, c3, c4, c5, c6, c7, c8, c9, c10, c11, c12, c13, c14⟩ := hc
      have e1 : (S [c] == PySem.Str.ofString "(") = false := S_one c1
      have e2 : (S [c] == PySem.Str.ofString "|") = false := S_one c2
      have e3 : (S [c] == PySem.Str.ofString "?") = false := S_one c3
      have e4 : (S [c] == PySem.Str.ofString ")") = false := S_one c12
      have e5 : (S [c] == PySem.Str.ofString "[") = false := S_one c13
      have e6 : (S [c] == PySem.Str.ofString "\\") = false := S_one c14
      have e7 := no_stop (c := c) (by simp only [List.mem_cons, List.not_mem_nil, or_false]; omega)
      k_steps
      rename (Fr _ _ _ _) => F5
      rename (News _ _ _ _) => N5
      refine item_last (vi := vi) (v := .ref t) (PySem.IsL.isList (N5.get (.tail _ (.head _)))) ?_
      refine kun_list F5 N5 (PySem.IsL.isList (N5.get (.tail _ (.tail _ mt)))) rfl rfl rfl fun h₃ F5 N5 => ?_
      k_sweep
      k_steps
      refine joined_N X T (by show dp + 1 < 900; omega) (by with_reducible assumption) (by with_reducible assumption) (.tail _ (.tail _ my)) (.tail _ (.tail _ mz)) sy sz ha' hl' fun D1 vs1 n1 h5 tk5 F6 N6 l5 s5 c5 => ?_
      k_lt l5
      k_sweep
      k_steps
      dsimp only
      have hvl := hvi.length
      simp only [List.length_cons] at hfl
      refine set_top (vi := vi) (t := t) (by with_reducible assumption) (by with_reducible assumption) (by k_upd) (by omega) fun h7 F7 N7 => ?_
      k_sweep
      k_steps
      exact unf_set (vi := vi) F7 N7 (.tail _ (.tail _ (.tail _ (.head _)))) (.head _) (by k_ne) (fun p hp => by simp [hp]) hoff hvi
        ⟨_, _, mem_but (.tail _ (.tail _ (.tail _ (.tail _ mx)))) (hoff _ mx), sx⟩ ⟨_, _, mem_but (.tail _ (.head _)) (by k_ne), s5⟩ ⟨_, _, mem_but (.tail _ (.tail _ (.head _))) (by k_ne), .cons _ _ .nil⟩
        (hdr ▸ hU3) (by omega) (by omega) (by omega) rfl rfl rfl (by omega)
  · rename ¬ (_ < _) => hge
    have hnil : pat.drop pl = [] := List.drop_of_length_le (by rw [S_len] at hge; omega)
    rw [hnil] at hU2
    cases hU2
    case fin hd' ha' hl' =>
      rename (Fr _ _ _ _) => F5
      rename (News _ _ _ _) => N5
      refine item_last (vi := vi) (v := .ref t) (PySem.IsL.isList (N5.get (.head _))) ?_
      refine kun_list F5 N5 (PySem.IsL.isList (N5.get (.tail _ mt))) rfl rfl rfl fun h₃ F5 N5 => ?_
      k_sweep
      k_steps
      refine joined_N X T (by show dp + 1 < 900; omega) (by with_reducible assumption) (by with_reducible assumption) (.tail _ my) (.tail _ mz) sy sz ha' hl' fun D1 vs1 n1 h5 tk5 F6 N6 l5 s5 c5 => ?_
      k_lt l5
      k_sweep
      k_steps
      have hlx : vx.length = d.length := by simpa using StrsAre.length sx
      have hd1 := hd'.1
      refine add_N (by with_reducible assumption) (by with_reducible assumption) (.tail _ (.tail _ mx)) (.head _) (by omega) fun D2 h6 F6 N6 l6 => ?_
      k_lt l6
      k_sweep
      k_steps
      exact k _ _ _ _ _ (N6.get (.head _)) (N6.fresh (.head _)) (by rw [List.map_append]; exact sx.append' s5) F6.keep
end
end Mine
end

section
open PySem PySem.W PyProof.Rows
set_option Elab.async false
namespace Mine
theorem unf_N {w : World} {dp un : Nat} {fr : Option (List Env)} {gd : Option (List Code)} {s : Shared} {Q E : Value → Shared → Prop} {pat : List Nat} {tp : Tok} {out : List (List Nat)} {loose : List PySem.Str} {mean : ExcName → Option Value} {mg mb : PySem.Str → Option Value} {g : Heap} {L : Addr} {m : PySem.Str → Option Value} {led : List (Addr × Obj)}
   (X : (KF w).In g) (T : Top PySem.W.topProg loose mean mg mb g) (F : Fr g L s.heap m) (N : News g L s.heap led) (hd : dp < 800) (hn : pat.length ≤ 100000) (hU : Unf pat [([], [[]], [[]])] out)
   (k : ∀ h' tk D vs' n, Fr g L h' m → News g L h' ((D, listOf (List.toArray vs') n) :: led) → (∀ q ∈ led, @Ne Nat q.1 D) → StrsAre vs' (out.map S) → Q (.ref D) { s with heap := h', toks := tk })
   : wpAny (model PR w) (At dp fr gd un) (call (.ref 199) [.str (S pat) tp]) Q E s := by
  refine unf_spec (X.keeps F.keep) (T.keeps F.keep) hd hn hU fun h' tk D vs' n hD hnone hs old => ?_
  have hne : ∀ q ∈ led, q.1 ≠ D := fun q hq e => by have := (N q hq).1; rw [e, hnone] at this; cases this
  refine k h' tk D vs' n (F.kept old) (fun q hq => ?_) hne hs
  rcases List.mem_cons.mp hq with rfl | hq
  · refine ⟨hD, fun e => ?_, ?_⟩
    · obtain ⟨o, es, ep, ho, _⟩ := F.ns
      have e : D = L := e
      rw [← e, hnone] at ho
      cases ho
    · cases q : g.get? D with
      | none => rfl
      | some o => rw [F.keep _ _ q] at hnone; cases hnone
  · exact ⟨old _ _ (N q hq).1, (N q hq).2⟩
end Mine
end

section
open PySem PySem.W PySem.Calls PyProof.Rows PySem.Spec
set_option Elab.async false
namespace Mine
section
local macro_rules | `(tactic| k_room) => `(tactic| ((try simp only [depth_under_make, depth_under_kw, depth_in1, depth_deeper, depth_caller]); (try dsimp only [At]); simp only [recursionLimit]; omega))
local macro_rules | `(tactic| k_all) => `(tactic| first | with_reducible assumption | exact allLt_get (by with_reducible assumption) | exact allLt_g1 (by with_reducible assumption) | exact allLt_g2 (by with_reducible assumption) | exact allLt_g3 (by with_reducible assumption) | exact allLt_g4 (by with_reducible assumption) | exact allLt_g5 (by with_reducible assumption) | exact allLt_g6 (by with_reducible assumption) | exact allLt_g7 (by with_reducible assumption) | exact allLt_g8 (by with_reducible assumption) | exact allLt_g9 (by with_reducible assumption) | exact allLt_g10 (by with_reducible assumption) | exact allLt_g11 (by with_reducible assumption) | exact allLt_g12 (by with_reducible assumption) | exact allLt_up (by with_reducible assumption) (by with_reducible assumption) | exact allLt_u1 (by with_reducible assumption) (by with_reducible assumption) | exact allLt_u2 (by with_reducible assumption) (by with_reducible assumption) | exact allLt_u3 (by with_reducible assumption) (by with_reducible assumption) | exact allLt_u4 (by with_reducible assumption) (by with_reducible assumption) | exact allLt_u5 (by with_reducible assumption) (by with_reducible assumption) | exact allLt_u6 (by with_reducible assumption) (by with_reducible assumption) | exact allLt_u7 (by with_reducible assumption) (by with_reducible assumption) | exact allLt_u8 (by with_reducible assumption) (by with_reducible assumption) | exact allLt_u9 (by with_reducible assumption) (by with_reducible assumption) | exact allLt_u10 (by with_reducible assumption) (by with_reducible assumption) | exact allLt_u11 (by with_reducible assumption) (by with_reducible assumption) | exact allLt_u12 (by with_reducible assumption) (by with_reducible assumption))
local macro_rules | `(tactic| size_fits) => `(tactic| exact Nat.le_of_ble_eq_true rfl)
set_option maxRecDepth 100000 in
set_option maxHeartbeats 8000000 in
theorem gr_item0_1 {w : World} {base : Heap} {loose : List PySem.Str} {mean : ExcName → Option Value} {mg mb : PySem.Str → Option Value} (XB : (KF w).In base) (TB : Top PySem.W.topProg loose mean mg mb base)
   {dp un : Nat} {outer : List Env} {gd : Option (List Code)} {s : Shared} {Q : Option Value → Shared → Prop} {E : Value → Shared → Prop} {g : Heap} {x z : List Nat} {f I gb d gr dd l : Addr} {os r : List (Addr × Obj)} {vs : List Value} {n i : Nat} {t c1 c2 c3 : Tok}
   (hL : LamSpec w base x f os) (hd : dp < 980) 
   (G : Grd (At dp (some outer) gd un) base outer g ((gr, grO gb dd (.int 1 c3) (.bool true)) :: (dd, dictOf [] 0) :: (I, iterO l i) :: (gb, gbO I f d (.int 1 c1) (.bool true) (.str (S z) t) (.bool true) (.bool true) (.bool true) (.int 1 c2) (.bool true)) :: (d, dictOf [] 0) :: r) s.heap)
   (hos : ∀ q ∈ os, q ∈ r) (hl : (l, listOf vs.toArray n) ∈ r) (offI : ∀ q ∈ r, q.1 ≠ I) (offgb : ∀ q ∈ r, q.1 ≠ gb) (hI1 : gb ≠ I) (hI2 : d ≠ I) (hI3 : d ≠ gb) (hI4 : I ≠ gb) (hr1 : gr ≠ I) (hr2 : gr ≠ gb) (hr3 : dd ≠ I) (hr4 : dd ≠ gb)
   (k : ∀ h' tk, Grd (At dp (some outer) gd un) base outer g ((gr, grO gb dd (.int 1 c3) (.bool true)) :: (dd, dictOf [] 0) :: (I, iterO l i) :: (gb, gbO I f d (.int 1 c1) .none .none (.bool false) (.bool false) (.bool true) (.int 1 c2) (.bool true)) :: (d, dictOf [] 0) :: r) h' → Q (some (.str (S z) t)) { s with heap := h', toks := tk }) :
   wpAny (model PR w) (At dp (some outer) gd un) (pyNext (.ref gr)) Q E s := by
   delta PR KF at *
   revert XB; k_fill; intro XB
   have hd0 := (G.led _ (.tail _ (.head _))).1
   have hgb := (G.led _ (.head _)).1
   refine' gr_next (XB.keeps (fun b o e => G.keep b o (G.below.stays b o e))) (C := 157) (ox := grO gb dd (.int 1 c3) (.bool true)) (od := some (dictOf [] 0)) ?inst ?f1 ?f2 ?_
   case f1 => k_is
   case f2 => k_is
   case inst => exact ⟨hgb, rfl, rfl, hd0⟩
   refine wpAny_call ?_
   k_dflt (refine' enter_grd G XB TB ?k6 ?k7 ?k8 ?k9 ?kB ?_ ?c2 ?c3 ?c4 ?c5; (case k6 => k_is); (case k7 => k_is); (case k8 => k_room); (case k9 => exact BindsTo.of_eq rfl); (case kB => exact locs rfl); (case c2 => exact rfl); (case c3 => exact rfl); (case c4 => exact rfl); (case c5 => decide); k_whole)
   intro L h₁ hLs F' N' B' X' T' D' K0
   (try dsimp only)
   k_steps
   exact k _ _ (G.back (by k_asm) (by k_asm) (fun q hq => hq))
set_option maxRecDepth 100000 in
set_option maxHeartbeats 8000000 in
theorem gr_item_1 {w : World} {base : Heap} {loose : List PySem.Str} {mean : ExcName → Option Value} {mg mb : PySem.Str → Option Value} (XB : (KF w).In base) (TB : Top PySem.W.topProg loose mean mg mb base)
   {dp un : Nat} {outer : List Env} {gd : Option (List Code)} {s : Shared} {Q : Option Value → Shared → Prop} {E : Value → Shared → Prop} {g : Heap} {x z : List Nat} {f I gb d gr dd l : Addr} {os r : List (Addr × Obj)} {vs : List Value} {n i : Nat} {t c1 c2 c3 : Tok}
   (hL : LamSpec w base x f os) (hd : dp < 980) (hz : z ≠ []) (hzl : z.length ≤ 100) (hb : decide (z.head? = x.head?) = true) (hx : vs[i]? = some (.str (S z) t))
   (G : Grd (At dp (some outer) gd un) base outer g ((gr, grO gb dd (.int 1 c3) (.bool true)) :: (dd, dictOf [] 0) :: (I, iterO l i) :: (gb, gbO I f d (.int 1 c1) .none .none (.bool false) (.bool false) (.bool true) (.int 1 c2) (.bool true)) :: (d, dictOf [] 0) :: r) s.heap)
   (hos : ∀ q ∈ os, q ∈ r) (hl : (l, listOf vs.toArray n) ∈ r) (offI : ∀ q ∈ r, q.1 ≠ I) (offgb : ∀ q ∈ r, q.1 ≠ gb) (hI1 : gb ≠ I) (hI2 : d ≠ I) (hI3 : d ≠ gb) (hI4 : I ≠ gb) (hr1 : gr ≠ I) (hr2 : gr ≠ gb) (hr3 : dd ≠ I) (hr4 : dd ≠ gb)
   (k : ∀ h' tk, Grd (At dp (some outer) gd un) base outer g ((gr, grO gb dd (.int 1 c3) (.bool true)) :: (dd, dictOf [] 0) :: (I, iterO l (i + 1)) :: (gb, gbO I f d (.int 1 c1) .none .none (.bool false) (.bool false) (.bool true) (.int 1 c2) (.bool true)) :: (d, dictOf [] 0) :: r) h' → Q (some (.str (S z) t)) { s with heap := h', toks := tk }) :
   wpAny (model PR w) (At dp (some outer) gd un) (pyNext (.ref gr)) Q E s := by
   delta PR KF at *
   revert XB; k_fill; intro XB
   have hd0 := (G.led _ (.tail _ (.head _))).1
   have hgb := (G.led _ (.head _)).1
   refine' gr_next (XB.keeps (fun b o e => G.keep b o (G.below.stays b o e))) (C := 157) (ox := grO gb dd (.int 1 c3) (.bool true)) (od := some (dictOf [] 0)) ?inst ?f1 ?f2 ?_
   case f1 => k_is
   case f2 => k_is
   case inst => exact ⟨hgb, rfl, rfl, hd0⟩
   refine wpAny_call ?_
   k_dflt (refine' enter_grd G XB TB ?k6 ?k7 ?k8 ?k9 ?kB ?_ ?c2 ?c3 ?c4 ?c5; (case k6 => k_is); (case k7 => k_is); (case k8 => k_room); (case k9 => exact BindsTo.of_eq rfl); (case kB => exact locs rfl); (case c2 => exact rfl); (case c3 => exact rfl); (case c4 => exact rfl); (case c5 => decide); k_whole)
   intro L h₁ hLs F' N' B' X' T' D' K0
   (try dsimp only)
   repeat' ((fail_if_success (with_reducible show wpAny _ _ (call (Value.builtin "next") [Value.ref I]) _ _ _)); first | (k_unfold; (try dsimp only)) | (k_end; wrow_close) | walk1 | (dsimp only; walk1) | (leave1; walk_say "STEP leave1"; try dsimp only) | fail "no step")
   refine li_next (by k_asm) (by k_asm) (by k_updF) (by repeat (first | exact hl | refine List.Mem.tail _ ?_)) hx ?_
   intro h' F' N'
   (try dsimp only at N')
   k_sweep
   repeat' ((fail_if_success (with_reducible show wpAny _ _ (getMethod (Value.ref _) (PySem.Str.ofString "_keyfunc") _) _ _ _)); first | (k_unfold; (try dsimp only)) | (k_end; wrow_close) | walk1 | (dsimp only; walk1) | (leave1; walk_say "STEP leave1"; try dsimp only) | fail "no step")
   k_dflt (refine' method_usual ?qX ?qI ?qa ?qb ?qc ?qd ?_; (case qX => k_in); (case qI => k_inst); (case qa => k_is); (case qb => k_is); (case qc => k_is); (case qd => first | k_is | exact rfl | decide +kernel); k_whole)
   repeat' ((fail_if_success (with_reducible show wpAny _ _ (callWith _ (Prod.fst (Value.ref f, _)) _ _ _) _ _ _)); first | (k_unfold; (try dsimp only)) | (k_end; wrow_close) | walk1 | (dsimp only; walk1) | (leave1; walk_say "STEP leave1"; try dsimp only) | fail "no step")
   dsimp only
   refine callWith_F (fn_S hL (by k_asm) (fun q hq => by repeat (first | exact hos q hq | refine List.Mem.tail _ ?_))) ?_
   repeat' ((fail_if_success (with_reducible show wpAny _ _ (call (Value.ref f) _) _ _ _)); first | (k_unfold; (try dsimp only)) | (k_end; wrow_close) | walk1 | (dsimp only; walk1) | (leave1; walk_say "STEP leave1"; try dsimp only) | fail "no step")
   · exact fn_S hL (by k_asm) (fun q hq => by repeat (first | exact hos q hq | refine List.Mem.tail _ ?_))
   refine lam_S hL (by k_asm) (by k_asm) (by k_asm) rfl (show ScopeKind.function ≠ ScopeKind.module from by decide) (by (try dsimp only [At]); show _ < 990; simp only [Around.deeper]; omega) hz hzl (fun q hq => by repeat (first | exact hos q hq | refine List.Mem.tail _ ?_)) ?_
   rw [hb]
   intro h' tk F' N'
   k_steps
   exact k _ _ (G.back (by k_asm) (by k_asm) (fun q hq => .tail _ hq))
set_option maxRecDepth 100000 in
set_option maxHeartbeats 8000000 in
theorem gr_item0_2 {w : World} {base : Heap} {loose : List PySem.Str} {mean : ExcName → Option Value} {mg mb : PySem.Str → Option Value} (XB : (KF w).In base) (TB : Top PySem.W.topProg loose mean mg mb base)
   {dp un : Nat} {outer : List Env} {gd : Option (List Code)} {s : Shared} {Q : Option Value → Shared → Prop} {E : Value → Shared → Prop} {g : Heap} {x z : List Nat} {f I gb d gr dd l : Addr} {os r : List (Addr × Obj)} {vs : List Value} {n i : Nat} {t c1 c2 c3 : Tok}
   (hL : LamSpec w base x f os) (hd : dp < 980) 
   (G : Grd (At dp (some outer) gd un) base outer g ((gr, grO gb dd (.int 2 c3) (.bool false)) :: (dd, dictOf [] 0) :: (I, iterO l i) :: (gb, gbO I f d (.int 2 c1) (.bool false) (.str (S z) t) (.bool true) (.bool true) (.bool true) (.int 2 c2) (.bool false)) :: (d, dictOf [] 0) :: r) s.heap)
   (hos : ∀ q ∈ os, q ∈ r) (hl : (l, listOf vs.toArray n) ∈ r) (offI : ∀ q ∈ r, q.1 ≠ I) (offgb : ∀ q ∈ r, q.1 ≠ gb) (hI1 : gb ≠ I) (hI2 : d ≠ I) (hI3 : d ≠ gb) (hI4 : I ≠ gb) (hr1 : gr ≠ I) (hr2 : gr ≠ gb) (hr3 : dd ≠ I) (hr4 : dd ≠ gb)
   (k : ∀ h' tk, Grd (At dp (some outer) gd un) base outer g ((gr, grO gb dd (.int 2 c3) (.bool false)) :: (dd, dictOf [] 0) :: (I, iterO l i) :: (gb, gbO I f d (.int 2 c1) .none .none (.bool false) (.bool false) (.bool true) (.int 2 c2) (.bool false)) :: (d, dictOf [] 0) :: r) h' → Q (some (.str (S z) t)) { s with heap := h', toks := tk }) :
   wpAny (model PR w) (At dp (some outer) gd un) (pyNext (.ref gr)) Q E s := by
   delta PR KF at *
   revert XB; k_fill; intro XB
   have hd0 := (G.led _ (.tail _ (.head _))).1
   have hgb := (G.led _ (.head _)).1
   refine' gr_next (XB.keeps (fun b o e => G.keep b o (G.below.stays b o e))) (C := 157) (ox := grO gb dd (.int 2 c3) (.bool false)) (od := some (dictOf [] 0)) ?inst ?f1 ?f2 ?_
   case f1 => k_is
   case f2 => k_is
   case inst => exact ⟨hgb, rfl, rfl, hd0⟩
   refine wpAny_call ?_
   k_dflt (refine' enter_grd G XB TB ?k6 ?k7 ?k8 ?k9 ?kB ?_ ?c2 ?c3 ?c4 ?c5; (case k6 => k_is); (case k7 => k_is); (case k8 => k_room); (case k9 => exact BindsTo.of_eq rfl); (case kB => exact locs rfl); (case c2 => exact rfl); (case c3 => exact rfl); (case c4 => exact rfl); (case c5 => decide); k_whole)
   intro L h₁ hLs F' N' B' X' T' D' K0
   (try dsimp only)
   k_steps
   exact k _ _ (G.back (by k_asm) (by k_asm) (fun q hq => hq))
set_option maxRecDepth 100000 in
set_option maxHeartbeats 8000000 in
theorem gr_item_2 {w : World} {base : Heap} {loose : List PySem.Str} {mean : ExcName → Option Value} {mg mb : PySem.Str → Option Value} (XB : (KF w).In base) (TB : Top PySem.W.topProg loose mean mg mb base)
   {dp un : Nat} {outer : List Env} {gd : Option (List Code)} {s : Shared} {Q : Option Value → Shared → Prop} {E : Value → Shared → Prop} {g : Heap} {x z : List Nat} {f I gb d gr dd l : Addr} {os r : List (Addr × Obj)} {vs : List Value} {n i : Nat} {t c1 c2 c3 : Tok}
   (hL : LamSpec w base x f os) (hd : dp < 980) (hz : z ≠ []) (hzl : z.length ≤ 100) (hb : decide (z.head? = x.head?) = false) (hx : vs[i]? = some (.str (S z) t))
   (G : Grd (At dp (some outer) gd un) base outer g ((gr, grO gb dd (.int 2 c3) (.bool false)) :: (dd, dictOf [] 0) :: (I, iterO l i) :: (gb, gbO I f d (.int 2 c1) .none .none (.bool false) (.bool false) (.bool true) (.int 2 c2) (.bool false)) :: (d, dictOf [] 0) :: r) s.heap)
   (hos : ∀ q ∈ os, q ∈ r) (hl : (l, listOf vs.toArray n) ∈ r) (offI : ∀ q ∈ r, q.1 ≠ I) (offgb : ∀ q ∈ r, q.1 ≠ gb) (hI1 : gb ≠ I) (hI2 : d ≠ I) (hI3 : d ≠ gb) (hI4 : I ≠ gb) (hr1 : gr ≠ I) (hr2 : gr ≠ gb) (hr3 : dd ≠ I) (hr4 : dd ≠ gb)
   (k : ∀ h' tk, Grd (At dp (some outer) gd un) base outer g ((gr, grO gb dd (.int 2 c3) (.bool false)) :: (dd, dictOf [] 0) :: (I, iterO l (i + 1)) :: (gb, gbO I f d (.int 2 c1) .none .none (.bool false) (.bool false) (.bool true) (.int 2 c2) (.bool false)) :: (d, dictOf [] 0) :: r) h' → Q (some (.str (S z) t)) { s with heap := h', toks := tk }) :
   wpAny (model PR w) (At dp (some outer) gd un) (pyNext (.ref gr)) Q E s := by
   delta PR KF at *
   revert XB; k_fill; intro XB
   have hd0 := (G.led _ (.tail _ (.head _))).1
   have hgb := (G.led _ (.head _)).1
   refine' gr_next (XB.keeps (fun b o e => G.keep b o (G.below.stays b o e))) (C := 157) (ox := grO gb dd (.int 2 c3) (.bool false)) (od := some (dictOf [] 0)) ?inst ?f1 ?f2 ?_
   case f1 => k_is
   case f2 => k_is
   case inst => exact ⟨hgb, rfl, rfl, hd0⟩
   refine wpAny_call ?_
   k_dflt (refine' enter_grd G XB TB ?k6 ?k7 ?k8 ?k9 ?kB ?_ ?c2 ?c3 ?c4 ?c5; (case k6 => k_is); (case k7 => k_is); (case k8 => k_room); (case k9 => exact BindsTo.of_eq rfl); (case kB => exact locs rfl); (case c2 => exact rfl); (case c3 => exact rfl); (case c4 => exact rfl); (case c5 => decide); k_whole)
   intro L h₁ hLs F' N' B' X' T' D' K0
   (try dsimp only)
   repeat' ((fail_if_success (with_reducible show wpAny _ _ (call (Value.builtin "next") [Value.ref I]) _ _ _)); first | (k_unfold; (try dsimp only)) | (k_end; wrow_close) | walk1 | (dsimp only; walk1) | (leave1; walk_say "STEP leave1"; try dsimp only) | fail "no step")
   refine li_next (by k_asm) (by k_asm) (by k_updF) (by repeat (first | exact hl | refine List.Mem.tail _ ?_)) hx ?_
   intro h' F' N'
   (try dsimp only at N')
   k_sweep
   repeat' ((fail_if_success (with_reducible show wpAny _ _ (getMethod (Value.ref _) (PySem.Str.ofString "_keyfunc") _) _ _ _)); first | (k_unfold; (try dsimp only)) | (k_end; wrow_close) | walk1 | (dsimp only; walk1) | (leave1; walk_say "STEP leave1"; try dsimp only) | fail "no step")
   k_dflt (refine' method_usual ?qX ?qI ?qa ?qb ?qc ?qd ?_; (case qX => k_in); (case qI => k_inst); (case qa => k_is); (case qb => k_is); (case qc => k_is); (case qd => first | k_is | exact rfl | decide +kernel); k_whole)
   repeat' ((fail_if_success (with_reducible show wpAny _ _ (callWith _ (Prod.fst (Value.ref f, _)) _ _ _) _ _ _)); first | (k_unfold; (try dsimp only)) | (k_end; wrow_close) | walk1 | (dsimp only; walk1) | (leave1; walk_say "STEP leave1"; try dsimp only) | fail "no step")
   dsimp only
   refine callWith_F (fn_S hL (by k_asm) (fun q hq => by repeat (first | exact hos q hq | refine List.Mem.tail _ ?_))) ?_
   repeat' ((fail_if_success (with_reducible show wpAny _ _ (call (Value.ref f) _) _ _ _)); first | (k_unfold; (try dsimp only)) | (k_end; wrow_close) | walk1 | (dsimp only; walk1) | (leave1; walk_say "STEP leave1"; try dsimp only) | fail "no step")
   · exact fn_S hL (by k_asm) (fun q hq => by repeat (first | exact hos q hq | refine List.Mem.tail _ ?_))
   refine lam_S hL (by k_asm) (by k_asm) (by k_asm) rfl (show ScopeKind.function ≠ ScopeKind.module from by decide) (by (try dsimp only [At]); show _ < 990; simp only [Around.deeper]; omega) hz hzl (fun q hq => by repeat (first | exact hos q hq | refine List.Mem.tail _ ?_)) ?_
   rw [hb]
   intro h' tk F' N'
   k_steps
   exact k _ _ (G.back (by k_asm) (by k_asm) (fun q hq => .tail _ hq))
end
end Mine
end

section
open PySem PySem.W PySem.Calls PyProof.Rows PySem.Spec
set_option Elab.async false
namespace Mine
section
local macro_rules | `(tactic| k_room) => `(tactic| ((try simp only [depth_under_make, depth_under_kw, depth_in1, depth_deeper, depth_caller]); (try dsimp only [At]); simp only [recursionLimit]; omega))
local macro_rules | `(tactic| k_all) => `(tactic| first | with_reducible assumption | exact allLt_get (by with_reducible assumption) | exact allLt_g1 (by with_reducible assumption) | exact allLt_g2 (by with_reducible assumption) | exact allLt_g3 (by with_reducible assumption) | exact allLt_g4 (by with_reducible assumption) | exact allLt_g5 (by with_reducible assumption) | exact allLt_g6 (by with_reducible assumption) | exact allLt_g7 (by with_reducible assumption) | exact allLt_g8 (by with_reducible assumption) | exact allLt_g9 (by with_reducible assumption) | exact allLt_g10 (by with_reducible assumption) | exact allLt_g11 (by with_reducible assumption) | exact allLt_g12 (by with_reducible assumption) | exact allLt_up (by with_reducible assumption) (by with_reducible assumption) | exact allLt_u1 (by with_reducible assumption) (by with_reducible assumption) | exact allLt_u2 (by with_reducible assumption) (by with_reducible assumption) | exact allLt_u3 (by with_reducible assumption) (by with_reducible assumption) | exact allLt_u4 (by with_reducible assumption) (by with_reducible assumption) | exact allLt_u5 (by with_reducible assumption) (by with_reducible assumption) | exact allLt_u6 (by with_reducible assumption) (by with_reducible assumption) | exact allLt_u7 (by with_reducible assumption) (by with_reducible assumption) | exact allLt_u8 (by with_reducible assumption) (by with_reducible assumption) | exact allLt_u9 (by with_reducible assumption) (by with_reducible assumption) | exact allLt_u10 (by with_reducible assumption) (by with_reducible assumption) | exact allLt_u11 (by with_reducible assumption) (by with_reducible assumption) | exact allLt_u12 (by with_reducible assumption) (by with_reducible assumption))
local macro_rules | `(tactic| size_fits) => `(tactic| exact Nat.le_of_ble_eq_true rfl)
set_option maxRecDepth 100000 in
set_option maxHeartbeats 8000000 in
theorem gr_switch {w : World} {base : Heap} {loose : List PySem.Str} {mean : ExcName → Option Value} {mg mb : PySem.Str → Option Value} (XB : (KF w).In base) (TB : Top PySem.W.topProg loose mean mg mb base)
   {dp un : Nat} {outer : List Env} {gd : Option (List Code)} {s : Shared} {Q : Option Value → Shared → Prop} {E : Value → Shared → Prop} {g : Heap} {x z : List Nat} {f I gb d gr dd l : Addr} {os r : List (Addr × Obj)} {vs : List Value} {n i : Nat} {t c1 c2 c3 : Tok}
   (hL : LamSpec w base x f os) (hd : dp < 980) (hz : z ≠ []) (hzl : z.length ≤ 100) (hb : decide (z.head? = x.head?) = false) (hx : vs[i]? = some (.str (S z) t))
   (G : Grd (At dp (some outer) gd un) base outer g ((gr, grO gb dd (.int 1 c3) (.bool true)) :: (dd, dictOf [] 0) :: (I, iterO l i) :: (gb, gbO I f d (.int 1 c1) .none .none (.bool false) (.bool false) (.bool true) (.int 1 c2) (.bool true)) :: (d, dictOf [] 0) :: r) s.heap)
   (hos : ∀ q ∈ os, q ∈ r) (hl : (l, listOf vs.toArray n) ∈ r) (offI : ∀ q ∈ r, q.1 ≠ I) (offgb : ∀ q ∈ r, q.1 ≠ gb) (hI1 : gb ≠ I) (hI2 : d ≠ I) (hI3 : d ≠ gb) (hI4 : I ≠ gb) (hr1 : gr ≠ I) (hr2 : gr ≠ gb) (hr3 : dd ≠ I) (hr4 : dd ≠ gb)
   (k : ∀ g' h' tk, KtsTurn (outer.filterMap (·.frame)) g g' → Grd (At dp (some outer) gd un) base outer g' ((gr, grO gb dd (.int 1 c3) (.bool true)) :: (dd, dictOf [] 0) :: (I, iterO l (i + 1)) :: (gb, gbO I f d (.int 1 c1) (.bool false) (.str (S z) t) (.bool true) (.bool true) (.bool true) (.int 1 c2) (.bool true)) :: (d, dictOf [] 0) :: r) h' → Q none { s with heap := h', toks := tk }) :
   wpAny (model PR w) (At dp (some outer) gd un) (pyNext (.ref gr)) Q E s := by
   refine wpAny_grow ?_
   delta PR KF at *
   revert XB; k_fill; intro XB
   have hd0 := (G.led _ (.tail _ (.head _))).1
   have hgb := (G.led _ (.head _)).1
   refine' gr_next (XB.keeps (fun b o e => G.keep b o (G.below.stays b o e))) (C := 157) (ox := grO gb dd (.int 1 c3) (.bool true)) (od := some (dictOf [] 0)) ?inst ?f1 ?f2 ?_
   case f1 => k_is
   case f2 => k_is
   case inst => exact ⟨hgb, rfl, rfl, hd0⟩
   refine wpAny_call ?_
   k_dflt (refine' enter_grd G XB TB ?k6 ?k7 ?k8 ?k9 ?kB ?_ ?c2 ?c3 ?c4 ?c5; (case k6 => k_is); (case k7 => k_is); (case k8 => k_room); (case k9 => exact BindsTo.of_eq rfl); (case kB => exact locs rfl); (case c2 => exact rfl); (case c3 => exact rfl); (case c4 => exact rfl); (case c5 => decide); k_whole)
   intro L h₁ hLs F' N' B' X' T' D' K0
   (try dsimp only)
   repeat' ((fail_if_success (with_reducible show wpAny _ _ (call (Value.builtin "next") [Value.ref I]) _ _ _)); first | (k_unfold; (try dsimp only)) | (k_end; wrow_close) | walk1 | (dsimp only; walk1) | (leave1; walk_say "STEP leave1"; try dsimp only) | fail "no step")
   refine li_next (by k_asm) (by k_asm) (by k_updF) (by repeat (first | exact hl | refine List.Mem.tail _ ?_)) hx ?_
   intro h' F' N'
   (try dsimp only at N')
   k_sweep
   repeat' ((fail_if_success (with_reducible show wpAny _ _ (getMethod (Value.ref _) (PySem.Str.ofString "_keyfunc") _) _ _ _)); first | (k_unfold; (try dsimp only)) | (k_end; wrow_close) | walk1 | (dsimp only; walk1) | (leave1; walk_say "STEP leave1"; try dsimp only) | fail "no step")
   k_dflt (refine' method_usual ?qX ?qI ?qa ?qb ?qc ?qd ?_; (case qX => k_in); (case qI => k_inst); (case qa => k_is); (case qb => k_is); (case qc => k_is); (case qd => first | k_is | exact rfl | decide +kernel); k_whole)
   repeat' ((fail_if_success (with_reducible show wpAny _ _ (callWith _ (Prod.fst (Value.ref f, _)) _ _ _) _ _ _)); first | (k_unfold; (try dsimp only)) | (k_end; wrow_close) | walk1 | (dsimp only; walk1) | (leave1; walk_say "STEP leave1"; try dsimp only) | fail "no step")
   dsimp only
   refine callWith_F (fn_S hL (by k_asm) (fun q hq => by repeat (first | exact hos q hq | refine List.Mem.tail _ ?_))) ?_
   repeat' ((fail_if_success (with_reducible show wpAny _ _ (call (Value.ref f) _) _ _ _)); first | (k_unfold; (try dsimp only)) | (k_end; wrow_close) | walk1 | (dsimp only; walk1) | (leave1; walk_say "STEP leave1"; try dsimp only) | fail "no step")
   · exact fn_S hL (by k_asm) (fun q hq => by repeat (first | exact hos q hq | refine List.Mem.tail _ ?_))
   refine lam_S hL (by k_asm) (by k_asm) (by k_asm) rfl (show ScopeKind.function ≠ ScopeKind.module from by decide) (by (try dsimp only [At]); show _ < 990; simp only [Around.deeper]; omega) hz hzl (fun q hq => by repeat (first | exact hos q hq | refine List.Mem.tail _ ?_)) ?_
   rw [hb]
   intro h' tk F' N'
   k_steps
   refine stop_S (by with_reducible assumption) ?_
   intro hz'
   obtain ⟨g', T1, G1⟩ := raised_ground G (by with_reducible assumption) (by with_reducible assumption) (Nat.le_trans G.size hz')
   exact k _ _ _ T1 (G1.sub (fun q hq => .tail _ hq))
end
end Mine
end

section
open PySem PySem.W PySem.Calls PyProof.Rows PySem.Spec
set_option Elab.async false
namespace Mine
section
local macro_rules | `(tactic| k_room) => `(tactic| ((try simp only [depth_under_make, depth_under_kw, depth_in1, depth_deeper, depth_caller]); (try dsimp only [At]); simp only [recursionLimit]; omega))
local macro_rules | `(tactic| k_all) => `(tactic| first | with_reducible assumption | exact allLt_get (by with_reducible assumption) | exact allLt_g1 (by with_reducible assumption) | exact allLt_g2 (by with_reducible assumption) | exact allLt_g3 (by with_reducible assumption) | exact allLt_g4 (by with_reducible assumption) | exact allLt_g5 (by with_reducible assumption) | exact allLt_g6 (by with_reducible assumption) | exact allLt_g7 (by with_reducible assumption) | exact allLt_g8 (by with_reducible assumption) | exact allLt_g9 (by with_reducible assumption) | exact allLt_g10 (by with_reducible assumption) | exact allLt_g11 (by with_reducible assumption) | exact allLt_g12 (by with_reducible assumption) | exact allLt_up (by with_reducible assumption) (by with_reducible assumption) | exact allLt_u1 (by with_reducible assumption) (by with_reducible assumption) | exact allLt_u2 (by with_reducible assumption) (by with_reducible assumption) | exact allLt_u3 (by with_reducible assumption) (by with_reducible assumption) | exact allLt_u4 (by with_reducible assumption) (by with_reducible assumption) | exact allLt_u5 (by with_reducible assumption) (by with_reducible assumption) | exact allLt_u6 (by with_reducible assumption) (by with_reducible assumption) | exact allLt_u7 (by with_reducible assumption) (by with_reducible assumption) | exact allLt_u8 (by with_reducible assumption) (by with_reducible assumption) | exact allLt_u9 (by with_reducible assumption) (by with_reducible assumption) | exact allLt_u10 (by with_reducible assumption) (by with_reducible assumption) | exact allLt_u11 (by with_reducible assumption) (by with_reducible assumption) | exact allLt_u12 (by with_reducible assumption) (by with_reducible assumption))
local macro_rules | `(tactic| size_fits) => `(tactic| exact Nat.le_of_ble_eq_true rfl)
local macro_rules | `(tactic| walk_at "call ref") => `(tactic| (k_here; (fail_if_success k_inElt); k_dflt (refine wpAny_call ?_; kts_go)))
local macro_rules | `(tactic| k_enter) => `(tactic| ((fail_if_success k_inElt); kts_go))
set_option maxRecDepth 100000 in
set_option maxHeartbeats 8000000 in
theorem gr_end {w : World} {base : Heap} {loose : List PySem.Str} {mean : ExcName → Option Value} {mg mb : PySem.Str → Option Value} (XB : (KF w).In base) (TB : Top PySem.W.topProg loose mean mg mb base)
   {dp un : Nat} {outer : List Env} {gd : Option (List Code)} {s : Shared} {Q : Option Value → Shared → Prop} {E : Value → Shared → Prop} {g : Heap} {x z : List Nat} {f I gb d gr dd l : Addr} {os r : List (Addr × Obj)} {vs : List Value} {n i : Nat} {t c1 c2 c3 : Tok}
   (hL : LamSpec w base x f os) (hd : dp < 980) (hx : vs[i]? = none)
   (G : Grd (At dp (some outer) gd un) base outer g ((gr, grO gb dd (.int 2 c3) (.bool false)) :: (dd, dictOf [] 0) :: (I, iterO l i) :: (gb, gbO I f d (.int 2 c1) .none .none (.bool false) (.bool false) (.bool true) (.int 2 c2) (.bool false)) :: (d, dictOf [] 0) :: r) s.heap)
   (hos : ∀ q ∈ os, q ∈ r) (hl : (l, listOf vs.toArray n) ∈ r) (offI : ∀ q ∈ r, q.1 ≠ I) (offgb : ∀ q ∈ r, q.1 ≠ gb) (hI1 : gb ≠ I) (hI2 : d ≠ I) (hI3 : d ≠ gb) (hI4 : I ≠ gb) (hr1 : gr ≠ I) (hr2 : gr ≠ gb) (hr3 : dd ≠ I) (hr4 : dd ≠ gb)
   (k : ∀ g' h' tk, KtsTurn (outer.filterMap (·.frame)) g g' → Grd (At dp (some outer) gd un) base outer g' ((gr, grO gb dd (.int 2 c3) (.bool false)) :: (dd, dictOf [] 0) :: (I, iterX i) :: (gb, gbO I f d (.int 2 c1) .none .none (.bool false) (.bool false) (.bool true) (.int 2 c2) (.bool false)) :: (d, dictOf [] 0) :: r) h' → Q none { s with heap := h', toks := tk }) :
   wpAny (model PR w) (At dp (some outer) gd un) (pyNext (.ref gr)) Q E s := by
   refine wpAny_grow ?_
   delta PR KF at *
   revert XB; k_fill; intro XB
   have hd0 := (G.led _ (.tail _ (.head _))).1
   have hgb := (G.led _ (.head _)).1
   refine' gr_next (XB.keeps (fun b o e => G.keep b o (G.below.stays b o e))) (C := 157) (ox := grO gb dd (.int 2 c3) (.bool false)) (od := some (dictOf [] 0)) ?inst ?f1 ?f2 ?_
   case f1 => k_is
   case f2 => k_is
   case inst => exact ⟨hgb, rfl, rfl, hd0⟩
   refine wpAny_call ?_
   k_dflt (refine' enter_grd G XB TB ?k6 ?k7 ?k8 ?k9 ?kB ?_ ?c2 ?c3 ?c4 ?c5; (case k6 => k_is); (case k7 => k_is); (case k8 => k_room); (case k9 => exact BindsTo.of_eq rfl); (case kB => exact locs rfl); (case c2 => exact rfl); (case c3 => exact rfl); (case c4 => exact rfl); (case c5 => decide); k_whole)
   intro L h₁ hLs F' N' B' X' T' D' K0
   (try dsimp only)
   repeat' ((fail_if_success (with_reducible show wpAny _ _ (call (Value.builtin "next") [Value.ref I]) _ _ _)); first | (k_unfold; (try dsimp only)) | (k_end; wrow_close) | walk1 | (dsimp only; walk1) | (leave1; walk_say "STEP leave1"; try dsimp only) | fail "no step")
   refine li_stop (by k_asm) (by k_asm) (by k_updF) (by repeat (first | exact hl | refine List.Mem.tail _ ?_)) rfl hx ?_
   intro h1 h' e F' N' x'
   (try dsimp only at N')
   k_dflt (refine' caught_M0 (T' := "StopIteration") x' ?qF ?qN ?qK ?qX ?qT ?qD ?q0 ?qe PyProof.Rows.Boot.«StopIteration» ?qn isExc_Stop notTuple_Stop ?qs ?_; (case qF => k_asm); (case qN => k_asm); (case qK => k_asm); (case qX => assumption); (case qT => assumption); (case qD => assumption); (case q0 => first | assumption | exact KtsTurn.refl); (case qs => kts_sub); (case qe => k_is); (case qn => decide); k_whole)
   clear x'
   intro h9 g9 T9 F' N' K9 X9 P9 D9
   (try k_lift K9)
   (try k_sweep)
   k_steps
   rename KtsTurn _ _ _ => tZ
   obtain ⟨g1, T1, F1, B1⟩ := turn_fr B' (by with_reducible assumption) tZ
   refine leave_onS B1 F1 (by with_reducible assumption) (by with_reducible assumption) ?_
   intro h8 S8 R8 U8
   refine stop_S S8 ?_
   intro hz'
   obtain ⟨g', T2, G1⟩ := raised_groundK B1 (D'.turn T1) S8 U8 (by rw [T1.size]; exact Nat.le_trans G.size hz')
   exact k _ _ _ (T1.trans T2) (G1.sub (fun q hq => .tail _ hq))
end
end Mine
end

section
open PySem PySem.W PySem.Calls PyProof.Rows PySem.Spec
set_option Elab.async false
namespace Mine
theorem gr_iterC {prog : Program} {w : World} {A : Around} {E : Value → Shared → Prop} {s : Shared} {K : Frag} {x C f : Addr} {ox : Obj} {od : Option Obj} {Q : Value → Shared → Prop} {g : Value} (X : K.In s.heap) (I : InstAt s.heap x ox C od) (hs : findIn K (.ref C) "__iter__" = some (some (.ref f))) (hf : isFn K (.ref f) = true) (hn : findIn K (.ref C) "__next__" = some (some g))
    (h : wpAny (model prog w) A (call (.ref f) [.ref x]) (fun v s' => v = .ref x ∧ K.In s'.heap ∧ InstAt s'.heap x ox C od ∧ Q (.ref x) s') E s) : wpAny (model prog w) A (pyIter (.ref x)) Q E s := by
  have fin : wpAny (model prog w) A (call (.ref f) [.ref x] >>= fun v => pure (some v)) (fun r s' => r = some (.ref x) ∧ K.In s'.heap ∧ InstAt s'.heap x ox C od ∧ Q (.ref x) s') E s :=
    wpAny_bind (wpAny_mono h (fun v s' h' => wpAny_pure (by obtain ⟨rfl, h'⟩ := h'; exact ⟨rfl, h'⟩)) fun _ _ z => z)
  have one : ∀ refuse : Sem Value, wpAny (model prog w) A (callSpecialIfBoundUnlessNone? (.ref x) "__iter__" refuse) (fun r s' => r = some (.ref x) ∧ K.In s'.heap ∧ InstAt s'.heap x ox C od ∧ Q (.ref x) s') E s := by
    intro refuse
    simp only [callSpecialIfBoundUnlessNone?, bindSpecialIfBound?]
    refine wpAny_holding (wpAny_bind (wpAny_bind (wpAny_bind (I.type.here ((looks_findIn X hs).here ?_)))))
    refine wpAny_bind (wpAny_askSetting (wpAny_ite ?_))
    have fin2 : wpAny (model prog w) A (if (Value.ref f == Value.none) = true then (refuse >>= fun v => pure (some v)) else (call (.ref f) [.ref x] >>= fun v => pure (some v))) (fun r s' => r = some (.ref x) ∧ K.In s'.heap ∧ InstAt s'.heap x ox C od ∧ Q (.ref x) s') E s := by
      rw [if_neg (show ¬ ((Value.ref f == Value.none) = true) from Bool.false_ne_true)]
      exact fin
    split
    · exact wpAny_bind ((bind_fn X _ (beq_iff_eq.mp hf)).here (wpAny_pure (by exact fin2)))
    · exact wpAny_tryCatch (wpAny_bind ((bind_fn X _ (beq_iff_eq.mp hf)).here (wpAny_pure (by exact fin2))))
  unfold pyIter
  refine wpAny_bind (wpAny_bind (I.type.here ((looks_findIn X hs).here ?_)))
  show wpAny _ A (callSpecialIfBoundUnlessNone? (.ref x) "__iter__" _ >>= _) Q E s
  refine wpAny_bind (wpAny_mono (one _) (fun r s' hr => ?_) fun _ _ z => z)
  obtain ⟨rfl, X', I', hv⟩ := hr
  exact wpAny_bind (wpAny_bind (I'.type.here ((looks_findIn X' hn).here (wpAny_pure hv))))
theorem Grd.whole {A A' : Around} {base g h : Heap} {outer : List Env} {led : List (Addr × Obj)} (G : Grd A base outer g led h) (hA : A'.frames = some outer) : Grd A' base outer h [] h :=
  ⟨⟨hA, fun b o e => G.keep b o (G.below.stays b o e), G.below.frames.of_keeps fun b o e _ => ⟨o, G.keep b o e, rfl⟩⟩, fun b hb => by
    obtain ⟨o, es, n, ho, hd⟩ := G.dicts b hb
    exact ⟨o, es, n, G.keep b o ho, hd⟩, fun _ _ e => e, Nat.le_refl _, fun _ hq => nomatch hq⟩
section
local macro_rules | `(tactic| k_room) => `(tactic| ((try simp only [depth_under_make, depth_under_kw, depth_in1, depth_deeper, depth_caller]); (try dsimp only [At]); simp only [recursionLimit]; omega))
local macro_rules | `(tactic| k_all) => `(tactic| first | with_reducible assumption | exact allLt_get (by with_reducible assumption) | exact allLt_g1 (by with_reducible assumption) | exact allLt_g2 (by with_reducible assumption) | exact allLt_g3 (by with_reducible assumption) | exact allLt_g4 (by with_reducible assumption) | exact allLt_g5 (by with_reducible assumption) | exact allLt_g6 (by with_reducible assumption) | exact allLt_g7 (by with_reducible assumption) | exact allLt_g8 (by with_reducible assumption) | exact allLt_g9 (by with_reducible assumption) | exact allLt_g10 (by with_reducible assumption) | exact allLt_g11 (by with_reducible assumption) | exact allLt_g12 (by with_reducible assumption) | exact allLt_up (by with_reducible assumption) (by with_reducible assumption) | exact allLt_u1 (by with_reducible assumption) (by with_reducible assumption) | exact allLt_u2 (by with_reducible assumption) (by with_reducible assumption) | exact allLt_u3 (by with_reducible assumption) (by with_reducible assumption) | exact allLt_u4 (by with_reducible assumption) (by with_reducible assumption) | exact allLt_u5 (by with_reducible assumption) (by with_reducible assumption) | exact allLt_u6 (by with_reducible assumption) (by with_reducible assumption) | exact allLt_u7 (by with_reducible assumption) (by with_reducible assumption) | exact allLt_u8 (by with_reducible assumption) (by with_reducible assumption) | exact allLt_u9 (by with_reducible assumption) (by with_reducible assumption) | exact allLt_u10 (by with_reducible assumption) (by with_reducible assumption) | exact allLt_u11 (by with_reducible assumption) (by with_reducible assumption) | exact allLt_u12 (by with_reducible assumption) (by with_reducible assumption))
local macro_rules | `(tactic| size_fits) => `(tactic| exact Nat.le_of_ble_eq_true rfl)
set_option maxRecDepth 100000 in
set_option maxHeartbeats 8000000 in
theorem gr_iter {w : World} {base : Heap} {loose : List PySem.Str} {mean : ExcName → Option Value} {mg mb : PySem.Str → Option Value} (XB : (KF w).In base) (TB : Top PySem.W.topProg loose mean mg mb base)
   {dp un : Nat} {outer : List Env} {gd : Option (List Code)} {s : Shared} {Q : Value → Shared → Prop} {E : Value → Shared → Prop} {g : Heap} {gb gr dd : Addr} {num tk : Value} {led : List (Addr × Obj)}
   (hd : dp < 980) (G : Grd (At dp (some outer) gd un) base outer g led s.heap) (hm : (gr, grO gb dd num tk) ∈ led) (hdd : (dd, dictOf [] 0) ∈ led)
   (k : ∀ h' tk, (∀ b o, s.heap.get? b = some o → h'.get? b = some o) → Q (.ref gr) { s with heap := h', toks := tk }) :
   wpAny (model PR w) (At dp (some outer) gd un) (pyIter (.ref gr)) Q E s := by
   delta PR KF at *
   revert XB; k_fill; intro XB
   have hd0 := (G.led _ hdd).1
   have hgb := (G.led _ hm).1
   have G2 := G.whole (A' := At dp (some outer) gd un) rfl
   have I0 : ∀ h' : Heap, (∀ b o, s.heap.get? b = some o → h'.get? b = some o) → InstAt h' gr (grO gb dd num tk) 157 (some (dictOf [] 0)) := fun h' hk => ⟨hk _ _ hgb, rfl, rfl, hk _ _ hd0⟩
   refine' gr_iterC (XB.keeps (fun b o e => G.keep b o (G.below.stays b o e))) (C := 157) (ox := grO gb dd num tk) (od := some (dictOf [] 0)) ?inst ?f1 ?f2 ?f3 ?_
   case f1 => k_is
   case f2 => k_is
   case f3 => k_is
   case inst => exact I0 _ (fun _ _ e => e)
   refine wpAny_call ?_
   k_dflt (refine' enter_grd G2 XB TB ?k6 ?k7 ?k8 ?k9 ?kB ?_ ?c2 ?c3 ?c4 ?c5; (case k6 => k_is); (case k7 => k_is); (case k8 => k_room); (case k9 => exact BindsTo.of_eq rfl); (case kB => exact locs rfl); (case c2 => exact rfl); (case c3 => exact rfl); (case c4 => exact rfl); (case c5 => decide); k_whole)
   intro L h₁ hLs F' N' B' X' T' D' K0
   (try dsimp only)
   k_steps
   · exact I0 _ F'.keep
   · exact k _ _ F'.keep
end
end Mine
end

section
open PySem PySem.W PySem.Calls PyProof.Rows PySem.Spec
set_option Elab.async false
set_option maxRecDepth 100000
namespace Mine
theorem Grd.at {A A' : Around} {base g h : Heap} {outer : List Env} {led : List (Addr × Obj)} (G : Grd A base outer g led h) (hA : A'.frames = some outer) : Grd A' base outer g led h :=
  ⟨⟨hA, G.below.stays, G.below.frames⟩, G.dicts, G.keep, G.size, G.led⟩
theorem Grd.up {A : Around} {base g h h' : Heap} {outer : List Env} {led : List (Addr × Obj)} (G : Grd A base outer g led h) (hk : ∀ b o, h.get? b = some o → h'.get? b = some o) (hz : h.objs.size ≤ h'.objs.size) : Grd A base outer g led h' :=
  ⟨G.below, G.dicts, fun b o e => hk b o (G.keep b o e), Nat.le_trans G.size hz, fun q hq => ⟨hk _ _ (G.led q hq).1, (G.led q hq).2⟩⟩
/-- one object of the ledger is changed -/
theorem Grd.set {A : Around} {base g h h' : Heap} {outer : List Env} {led led' : List (Addr × Obj)} {S : Addr} {o' : Obj} (G : Grd A base outer g led h) (hS : ∃ o, (S, o) ∈ led) (hs : Heap.SameBut S h h') (ho : h'.get? S = some o') (hz : h.objs.size ≤ h'.objs.size)
    (hl : ∀ q ∈ led', q = (S, o') ∨ (q ∈ led ∧ q.1 ≠ S)) : Grd A base outer g led' h' := by
  obtain ⟨o, hm⟩ := hS
  have hg : g.get? S = none := (G.led _ hm).2
  refine ⟨G.below, G.dicts, fun b ob e => hs.extBut b ob (fun q => by rw [q, hg] at e; cases e) (G.keep b ob e), Nat.le_trans G.size hz, fun q hq => ?_⟩
  rcases hl q hq with rfl | ⟨hq, hne⟩
  · exact ⟨ho, hg⟩
  · exact ⟨hs.extBut _ _ hne (G.led q hq).1, (G.led q hq).2⟩
theorem take_drop_succ {α : Type} {ws : List α} {i lo : Nat} {z : α} (h : ws[i]? = some z) (hlo : lo ≤ i) : (ws.take (i + 1)).drop lo = (ws.take i).drop lo ++ [z] := by
  obtain ⟨hi, hz⟩ := List.getElem?_eq_some_iff.mp h
  rw [List.take_succ, h, List.drop_append_of_le_length (by rw [List.length_take]; omega)]
  rfl
theorem strs_snoc {vs : List Value} {ss : List PySem.Str} {y : PySem.Str} {t : Tok} (h : StrsAre vs ss) : StrsAre (vs ++ [.str y t]) (ss ++ [y]) := by
  induction h with
  | nil => exact .cons _ _ .nil
  | cons _ _ _ ih => exact .cons _ _ ih
theorem grp_loop1 {w : World} {base : Heap} {loose : List PySem.Str} {mean : ExcName → Option Value} {mg mb : PySem.Str → Option Value} (XB : (KF w).In base) (TB : Top PySem.W.topProg loose mean mg mb base)
   {dp un : Nat} {outer : List Env} {gd : Option (List Code)} {s₀ : Shared} {R : Result → Shared → Prop} {g : Heap} {x : List Nat} {f I gb d gr dd l L0 : Addr} {os r : List (Addr × Obj)} {vs : List Value} {n lo hi : Nat} {ws : List (List Nat)} {c1 c2 c3 : Tok}
   (hL : LamSpec w base x f os) (hd : dp < 980) (hhi : hi ≤ 100) (hgrp : ∀ j, lo ≤ j → j < hi → ∃ z t, vs[j]? = some (.str (S z) t) ∧ ws[j]? = some z ∧ z ≠ [] ∧ z.length ≤ 100 ∧ decide (z.head? = x.head?) = true)
   (hos : ∀ q ∈ os, q ∈ r) (hl : (l, listOf vs.toArray n) ∈ r) (offI0 : ∀ q ∈ r, q.1 ≠ I) (offgb0 : ∀ q ∈ r, q.1 ≠ gb) (offL : ∀ q ∈ r, q.1 ≠ L0) (hI1 : gb ≠ I) (hI2 : d ≠ I) (hI3 : d ≠ gb) (hI4 : I ≠ gb) (hr1 : gr ≠ I) (hr2 : gr ≠ gb) (hr3 : dd ≠ I) (hr4 : dd ≠ gb)
   (hL1 : gr ≠ L0) (hL2 : dd ≠ L0) (hL3 : I ≠ L0) (hL4 : gb ≠ L0) (hL5 : d ≠ L0)
   (hend : ∃ z t, vs[hi]? = some (.str (S z) t) ∧ ws[hi]? = some z ∧ z ≠ [] ∧ z.length ≤ 100 ∧ decide (z.head? = x.head?) = false)
   (k : ∀ g' h' tk acc c z t, KtsTurn (outer.filterMap (·.frame)) g g' → Grd (At dp (some outer) gd (un + 1)) base outer g' ((gr, grO gb dd (.int 1 c3) (.bool true)) :: (dd, dictOf [] 0) :: (I, iterO l (hi + 1)) :: (gb, gbO I f d (.int 1 c1) (.bool false) (.str (S z) t) (.bool true) (.bool true) (.bool true) (.int 1 c2) (.bool true)) :: (d, dictOf [] 0) :: (L0, lstO acc c) :: r) h' → StrsAre acc.toList (((ws.take hi).drop lo).map S) → vs[hi]? = some (.str (S z) t) → ws[hi]? = some z → R (.ok (.ret .none)) { s₀ with heap := h', toks := tk }) :
   ∀ (m i : Nat) (h : Heap) (tk : Nat) (acc : Array Value) (c : Nat), hi - i = m → lo ≤ i → i ≤ hi → Grd (At dp (some outer) gd (un + 1)) base outer g ((gr, grO gb dd (.int 1 c3) (.bool true)) :: (dd, dictOf [] 0) :: (I, iterO l i) :: (gb, gbO I f d (.int 1 c1) .none .none (.bool false) (.bool false) (.bool true) (.int 1 c2) (.bool true)) :: (d, dictOf [] 0) :: (L0, lstO acc c) :: r) h → StrsAre acc.toList (((ws.take i).drop lo).map S) → acc.size ≤ i →
     codeAny (model PR w) (At dp (some outer) gd un) (.builtin "list.extend.loop" ⟨[.ref L0, .ref gr, .none], []⟩) R { s₀ with heap := h, toks := tk } := by
  have offI : ∀ o : Obj, ∀ q ∈ (L0, o) :: r, q.1 ≠ I := fun o q hq => by
    rcases List.mem_cons.mp hq with rfl | hq
    · exact hL3.symm
    · exact offI0 q hq
  have offgb : ∀ o : Obj, ∀ q ∈ (L0, o) :: r, q.1 ≠ gb := fun o q hq => by
    rcases List.mem_cons.mp hq with rfl | hq
    · exact hL4.symm
    · exact offgb0 q hq
  have hos' : ∀ {o : Obj}, ∀ q ∈ os, q ∈ (L0, o) :: r := fun q hq => .tail _ (hos q hq)
  have hl' : ∀ {o : Obj}, (l, listOf vs.toArray n) ∈ (L0, o) :: r := .tail _ hl
  intro m
  induction m with
  | zero =>
     intro i h tk acc c hm hlo hhi' G hacc hsz
     obtain rfl : i = hi := by omega
     refine ext_step ?_
     obtain ⟨z, t, e1, e2, e3, e4, e5⟩ := hend
     refine gr_switch XB TB hL hd e3 e4 e5 e1 G hos' hl' (offI _) (offgb _) hI1 hI2 hI3 hI4 hr1 hr2 hr3 hr4 fun g' h' tk hT G' => ?_
     exact k g' h' tk acc c z t hT G' hacc e1 e2
  | succ m ih =>
     intro i h tk acc c hm hlo hhi' G hacc hsz
     obtain ⟨z, t, e1, e2, e3, e4, e5⟩ := hgrp i hlo (by omega)
     refine ext_step ?_
     refine gr_item_1 XB TB hL hd e3 e4 e5 e1 G hos' hl' (offI _) (offgb _) hI1 hI2 hI3 hI4 hr1 hr2 hr3 hr4 fun h1 tk1 G1 => ?_
     refine ⟨acc, c, (G1.led _ (.tail _ (.tail _ (.tail _ (.tail _ (.tail _ (.head _))))))).1, by simp only [sizeLine]; omega, fun h2 c2' hS2 hsb hz2 => ?_⟩
     refine ih (i + 1) h2 tk1 (acc.push (.str (S z) t)) c2' (by omega) (by omega) (by omega) (G1.set ⟨_, .tail _ (.tail _ (.tail _ (.tail _ (.tail _ (.head _)))))⟩ hsb hS2 hz2 fun q hq => ?_) ?_ (by rw [Array.size_push]; omega)
     · simp only [List.mem_cons] at hq ⊢
       rcases hq with rfl | rfl | rfl | rfl | rfl | rfl | hq
       · exact .inr ⟨.inl rfl, hL1⟩
       · exact .inr ⟨.inr (.inl rfl), hL2⟩
       · exact .inr ⟨.inr (.inr (.inl rfl)), hL3⟩
       · exact .inr ⟨.inr (.inr (.inr (.inl rfl))), hL4⟩
       · exact .inr ⟨.inr (.inr (.inr (.inr (.inl rfl)))), hL5⟩
       · exact .inl rfl
       · exact .inr ⟨.inr (.inr (.inr (.inr (.inr (.inr hq))))), offL q hq⟩
     · rw [take_drop_succ e2 hlo, List.map_append, Array.toList_push]
       exact strs_snoc hacc
theorem grp_loop2 {w : World} {base : Heap} {loose : List PySem.Str} {mean : ExcName → Option Value} {mg mb : PySem.Str → Option Value} (XB : (KF w).In base) (TB : Top PySem.W.topProg loose mean mg mb base)
   {dp un : Nat} {outer : List Env} {gd : Option (List Code)} {s₀ : Shared} {R : Result → Shared → Prop} {g : Heap} {x : List Nat} {f I gb d gr dd l L0 : Addr} {os r : List (Addr × Obj)} {vs : List Value} {n lo hi : Nat} {ws : List (List Nat)} {c1 c2 c3 : Tok}
   (hL : LamSpec w base x f os) (hd : dp < 980) (hhi : hi ≤ 100) (hgrp : ∀ j, lo ≤ j → j < hi → ∃ z t, vs[j]? = some (.str (S z) t) ∧ ws[j]? = some z ∧ z ≠ [] ∧ z.length ≤ 100 ∧ decide (z.head? = x.head?) = false)
   (hos : ∀ q ∈ os, q ∈ r) (hl : (l, listOf vs.toArray n) ∈ r) (offI0 : ∀ q ∈ r, q.1 ≠ I) (offgb0 : ∀ q ∈ r, q.1 ≠ gb) (offL : ∀ q ∈ r, q.1 ≠ L0) (hI1 : gb ≠ I) (hI2 : d ≠ I) (hI3 : d ≠ gb) (hI4 : I ≠ gb) (hr1 : gr ≠ I) (hr2 : gr ≠ gb) (hr3 : dd ≠ I) (hr4 : dd ≠ gb)
   (hL1 : gr ≠ L0) (hL2 : dd ≠ L0) (hL3 : I ≠ L0) (hL4 : gb ≠ L0) (hL5 : d ≠ L0)
   (hend : vs[hi]? = none)
   (k : ∀ g' h' tk acc c, KtsTurn (outer.filterMap (·.frame)) g g' → Grd (At dp (some outer) gd (un + 1)) base outer g' ((gr, grO gb dd (.int 2 c3) (.bool false)) :: (dd, dictOf [] 0) :: (I, iterX hi) :: (gb, gbO I f d (.int 2 c1) .none .none (.bool false) (.bool false) (.bool true) (.int 2 c2) (.bool false)) :: (d, dictOf [] 0) :: (L0, lstO acc c) :: r) h' → StrsAre acc.toList (((ws.take hi).drop lo).map S) → R (.ok (.ret .none)) { s₀ with heap := h', toks := tk }) :
   ∀ (m i : Nat) (h : Heap) (tk : Nat) (acc : Array Value) (c : Nat), hi - i = m → lo ≤ i → i ≤ hi → Grd (At dp (some outer) gd (un + 1)) base outer g ((gr, grO gb dd (.int 2 c3) (.bool false)) :: (dd, dictOf [] 0) :: (I, iterO l i) :: (gb, gbO I f d (.int 2 c1) .none .none (.bool false) (.bool false) (.bool true) (.int 2 c2) (.bool false)) :: (d, dictOf [] 0) :: (L0, lstO acc c) :: r) h → StrsAre acc.toList (((ws.take i).drop lo).map S) → acc.size ≤ i →
     codeAny (model PR w) (At dp (some outer) gd un) (.builtin "list.extend.loop" ⟨[.ref L0, .ref gr, .none], []⟩) R { s₀ with heap := h, toks := tk } := by
  have offI : ∀ o : Obj, ∀ q ∈ (L0, o) :: r, q.1 ≠ I := fun o q hq => by
    rcases List.mem_cons.mp hq with rfl | hq
    · exact hL3.symm
    · exact offI0 q hq
  have offgb : ∀ o : Obj, ∀ q ∈ (L0, o) :: r, q.1 ≠ gb := fun o q hq => by
    rcases List.mem_cons.mp hq with rfl | hq
    · exact hL4.symm
    · exact offgb0 q hq
  have hos' : ∀ {o : Obj}, ∀ q ∈ os, q ∈ (L0, o) :: r := fun q hq => .tail _ (hos q hq)
  have hl' : ∀ {o : Obj}, (l, listOf vs.toArray n) ∈ (L0, o) :: r := .tail _ hl
  intro m
  induction m with
  | zero =>
     intro i h tk acc c hm hlo hhi' G hacc hsz
     obtain rfl : i = hi := by omega
     refine ext_step ?_
     refine gr_end (z := []) (t := 0) XB TB hL hd hend G hos' hl' (offI _) (offgb _) hI1 hI2 hI3 hI4 hr1 hr2 hr3 hr4 fun g' h' tk hT G' => ?_
     exact k g' h' tk acc c hT G' hacc
  | succ m ih =>
     intro i h tk acc c hm hlo hhi' G hacc hsz
     obtain ⟨z, t, e1, e2, e3, e4, e5⟩ := hgrp i hlo (by omega)
     refine ext_step ?_
     refine gr_item_2 XB TB hL hd e3 e4 e5 e1 G hos' hl' (offI _) (offgb _) hI1 hI2 hI3 hI4 hr1 hr2 hr3 hr4 fun h1 tk1 G1 => ?_
     refine ⟨acc, c, (G1.led _ (.tail _ (.tail _ (.tail _ (.tail _ (.tail _ (.head _))))))).1, by simp only [sizeLine]; omega, fun h2 c2' hS2 hsb hz2 => ?_⟩
     refine ih (i + 1) h2 tk1 (acc.push (.str (S z) t)) c2' (by omega) (by omega) (by omega) (G1.set ⟨_, .tail _ (.tail _ (.tail _ (.tail _ (.tail _ (.head _)))))⟩ hsb hS2 hz2 fun q hq => ?_) ?_ (by rw [Array.size_push]; omega)
     · simp only [List.mem_cons] at hq ⊢
       rcases hq with rfl | rfl | rfl | rfl | rfl | rfl | hq
       · exact .inr ⟨.inl rfl, hL1⟩
       · exact .inr ⟨.inr (.inl rfl), hL2⟩
       · exact .inr ⟨.inr (.inr (.inl rfl)), hL3⟩
       · exact .inr ⟨.inr (.inr (.inr (.inl rfl))), hL4⟩
       · exact .inr ⟨.inr (.inr (.inr (.inr (.inl rfl)))), hL5⟩
       · exact .inl rfl
       · exact .inr ⟨.inr (.inr (.inr (.inr (.inr (.inr hq))))), offL q hq⟩
     · rw [take_drop_succ e2 hlo, List.map_append, Array.toList_push]
       exact strs_snoc hacc
end Mine
end

section
open PySem PySem.W PySem.Calls PyProof.Rows PySem.Spec
set_option Elab.async false
set_option maxRecDepth 100000
namespace Mine
theorem grp_list1 {w : World} {base : Heap} {loose : List PySem.Str} {mean : ExcName → Option Value} {mg mb : PySem.Str → Option Value} (XB : (KF w).In base) (TB : Top PySem.W.topProg loose mean mg mb base)
   {dp un : Nat} {outer : List Env} {gd : Option (List Code)} {s : Shared} {Q E : Value → Shared → Prop} {g : Heap} {x z0 : List Nat} {f I gb d gr dd l : Addr} {os r : List (Addr × Obj)} {vs : List Value} {n lo hi : Nat} {ws : List (List Nat)} {t0 c1 c2 c3 : Tok}
   (hL : LamSpec w base x f os) (hd : dp < 980) (hhi : hi ≤ 100) (hlo : lo < hi) (hz0 : ws[lo]? = some z0) (hgrp : ∀ j, lo ≤ j → j < hi → ∃ z t, vs[j]? = some (.str (S z) t) ∧ ws[j]? = some z ∧ z ≠ [] ∧ z.length ≤ 100 ∧ decide (z.head? = x.head?) = true)
   (hend : ∃ z t, vs[hi]? = some (.str (S z) t) ∧ ws[hi]? = some z ∧ z ≠ [] ∧ z.length ≤ 100 ∧ decide (z.head? = x.head?) = false)
   (G : Grd (At dp (some outer) gd un) base outer g ((gr, grO gb dd (.int 1 c3) (.bool true)) :: (dd, dictOf [] 0) :: (I, iterO l (lo + 1)) :: (gb, gbO I f d (.int 1 c1) (.bool true) (.str (S z0) t0) (.bool true) (.bool true) (.bool true) (.int 1 c2) (.bool true)) :: (d, dictOf [] 0) :: r) s.heap)
   (hos : ∀ q ∈ os, q ∈ r) (hl : (l, listOf vs.toArray n) ∈ r) (offI : ∀ q ∈ r, q.1 ≠ I) (offgb : ∀ q ∈ r, q.1 ≠ gb) (hI1 : gb ≠ I) (hI2 : d ≠ I) (hI3 : d ≠ gb) (hI4 : I ≠ gb) (hr1 : gr ≠ I) (hr2 : gr ≠ gb) (hr3 : dd ≠ I) (hr4 : dd ≠ gb)
   (k : ∀ g' h' tk L0 acc c z t, KtsTurn (outer.filterMap (·.frame)) g g' → Grd (At dp (some outer) gd un) base outer g' ((gr, grO gb dd (.int 1 c3) (.bool true)) :: (dd, dictOf [] 0) :: (I, iterO l (hi + 1)) :: (gb, gbO I f d (.int 1 c1) (.bool false) (.str (S z) t) (.bool true) (.bool true) (.bool true) (.int 1 c2) (.bool true)) :: (d, dictOf [] 0) :: (L0, lstO acc c) :: r) h' → (∀ q ∈ (((gr, grO gb dd (.int 1 c3) (.bool true)) :: (dd, dictOf [] 0) :: (I, iterO l (lo + 1)) :: (gb, gbO I f d (.int 1 c1) (.bool true) (.str (S z0) t0) (.bool true) (.bool true) (.bool true) (.int 1 c2) (.bool true)) :: (d, dictOf [] 0) :: r) : List (Addr × Obj)), q.1 < L0) → StrsAre acc.toList (((ws.take hi).drop lo).map S) → vs[hi]? = some (.str (S z) t) → ws[hi]? = some z → Q (.ref L0) { s with heap := h', toks := tk }) :
   wpAny (model PR w) (At dp (some outer) gd un) (call (.type "list") [.ref gr]) Q E s := by
  delta PR KF at *
  revert XB; k_fill; intro XB
  have hlt : ∀ q ∈ (((gr, grO gb dd (.int 1 c3) (.bool true)) :: (dd, dictOf [] 0) :: (I, iterO l (lo + 1)) :: (gb, gbO I f d (.int 1 c1) (.bool true) (.str (S z0) t0) (.bool true) (.bool true) (.bool true) (.int 1 c2) (.bool true)) :: (d, dictOf [] 0) :: r) : List (Addr × Obj)), q.1 < s.heap.objs.size := fun q hq => Heap.lt_size (G.led q hq).1
  have X := XB.keeps (fun b o e => G.keep b o (G.below.stays b o e))
  have I0 : InstAt s.heap gr (grO gb dd (.int 1 c3) (.bool true)) 157 (some (dictOf [] 0)) := ⟨(G.led _ (.head _)).1, rfl, rfl, (G.led _ (.tail _ (.head _))).1⟩
  refine' own_list X I0 ?f1 ?f2 ?_ ?_
  case f1 => k_is
  case f2 => k_is
  · intro h' c Q' E' hk hS hk2
    have hz := Nat.le_of_lt (Heap.lt_size hS)
    exact gr_iter XB TB (s := { s with heap := h' }) hd ((G.up hk hz).at (A' := At dp (some outer) gd (un + 1 + 1)) rfl) (.head _) (.tail _ (.head _)) fun h2 tk hk3 => hk2 h2 tk hk3
  · intro h' tk c hk hS
    have hz := Nat.le_of_lt (Heap.lt_size hS)
    have ne : ∀ q ∈ (((gr, grO gb dd (.int 1 c3) (.bool true)) :: (dd, dictOf [] 0) :: (I, iterO l (lo + 1)) :: (gb, gbO I f d (.int 1 c1) (.bool true) (.str (S z0) t0) (.bool true) (.bool true) (.bool true) (.int 1 c2) (.bool true)) :: (d, dictOf [] 0) :: r) : List (Addr × Obj)), q.1 ≠ s.heap.objs.size := fun q hq => Nat.ne_of_lt (hlt q hq)
    have ne1 := ne _ (.head _)
    have ne2 := ne _ (.tail _ (.head _))
    have ne3 := ne _ (.tail _ (.tail _ (.head _)))
    have ne4 := ne _ (.tail _ (.tail _ (.tail _ (.head _))))
    have ne5 := ne _ (.tail _ (.tail _ (.tail _ (.tail _ (.head _)))))
    have ne6 : ∀ q ∈ r, q.1 ≠ s.heap.objs.size := fun q hq => ne _ (.tail _ (.tail _ (.tail _ (.tail _ (.tail _ hq)))))
    have hSg : g.get? s.heap.objs.size = none := Heap.get?_none_of_le G.size
    have Gup := (G.up hk hz).at (A' := At dp (some outer) gd (un + 1 + 1)) rfl
    refine ext_step ?_
    refine gr_item0_1 (c1 := c1) (c2 := c2) (c3 := c3) (z := z0) (t := t0) (i := lo + 1) (os := os) (l := l) (vs := vs) (n := n) (r := (s.heap.objs.size, lstO #[] c) :: r) XB TB hL hd ⟨Gup.below, Gup.dicts, Gup.keep, Gup.size, fun q hq => ?_⟩ (fun q hq => .tail _ (hos q hq)) (.tail _ hl) ?_ ?_ hI1 hI2 hI3 hI4 hr1 hr2 hr3 hr4 fun h1 tk1 G1 => ?_
    · simp only [List.mem_cons] at hq
      rcases hq with rfl | rfl | rfl | rfl | rfl | rfl | hq
      · exact Gup.led _ (.head _)
      · exact Gup.led _ (.tail _ (.head _))
      · exact Gup.led _ (.tail _ (.tail _ (.head _)))
      · exact Gup.led _ (.tail _ (.tail _ (.tail _ (.head _))))
      · exact Gup.led _ (.tail _ (.tail _ (.tail _ (.tail _ (.head _)))))
      · exact ⟨hS, hSg⟩
      · exact Gup.led _ (.tail _ (.tail _ (.tail _ (.tail _ (.tail _ hq)))))
    · intro q hq
      rcases List.mem_cons.mp hq with rfl | hq
      · exact ne3.symm
      · exact offI q hq
    · intro q hq
      rcases List.mem_cons.mp hq with rfl | hq
      · exact ne4.symm
      · exact offgb q hq
    refine ⟨#[], c, (G1.led _ (.tail _ (.tail _ (.tail _ (.tail _ (.tail _ (.head _))))))).1, by simp [sizeLine], fun h2 c2' hS2 hsb hz2 => ?_⟩
    refine grp_loop1 (s₀ := s) (ws := ws) (lo := lo) (hi := hi) (os := os) (l := l) (vs := vs) (n := n) (r := r) XB TB hL hd hhi ?_ hos hl offI offgb ne6 hI1 hI2 hI3 hI4 hr1 hr2 hr3 hr4 ne1 ne2 ne3 ne4 ne5 hend (fun g' h' tk acc c z t hT G' ha e1 e2 => ⟨rfl, k g' h' tk _ acc c z t hT (G'.at rfl) hlt ha e1 e2⟩) (hi - (lo + 1)) (lo + 1) h2 tk1 ((#[] : Array Value).push (.str (S z0) t0)) c2' rfl (Nat.le_succ _) hlo (G1.set ⟨_, .tail _ (.tail _ (.tail _ (.tail _ (.tail _ (.head _)))))⟩ hsb hS2 hz2 fun q hq => ?_) ?_ (Nat.le_add_left 1 lo)
    · exact hgrp
    · simp only [List.mem_cons] at hq ⊢
      rcases hq with rfl | rfl | rfl | rfl | rfl | rfl | hq
      · exact .inr ⟨.inl rfl, ne1⟩
      · exact .inr ⟨.inr (.inl rfl), ne2⟩
      · exact .inr ⟨.inr (.inr (.inl rfl)), ne3⟩
      · exact .inr ⟨.inr (.inr (.inr (.inl rfl))), ne4⟩
      · exact .inr ⟨.inr (.inr (.inr (.inr (.inl rfl)))), ne5⟩
      · exact .inl rfl
      · exact .inr ⟨.inr (.inr (.inr (.inr (.inr (.inr hq))))), ne6 q hq⟩
    · rw [take_drop_succ hz0 (Nat.le_refl lo), List.drop_of_length_le (by rw [List.length_take]; exact Nat.min_le_left _ _)]
      exact .cons _ _ .nil
theorem grp_list2 {w : World} {base : Heap} {loose : List PySem.Str} {mean : ExcName → Option Value} {mg mb : PySem.Str → Option Value} (XB : (KF w).In base) (TB : Top PySem.W.topProg loose mean mg mb base)
   {dp un : Nat} {outer : List Env} {gd : Option (List Code)} {s : Shared} {Q E : Value → Shared → Prop} {g : Heap} {x z0 : List Nat} {f I gb d gr dd l : Addr} {os r : List (Addr × Obj)} {vs : List Value} {n lo hi : Nat} {ws : List (List Nat)} {t0 c1 c2 c3 : Tok}
   (hL : LamSpec w base x f os) (hd : dp < 980) (hhi : hi ≤ 100) (hlo : lo < hi) (hz0 : ws[lo]? = some z0) (hgrp : ∀ j, lo ≤ j → j < hi → ∃ z t, vs[j]? = some (.str (S z) t) ∧ ws[j]? = some z ∧ z ≠ [] ∧ z.length ≤ 100 ∧ decide (z.head? = x.head?) = false)
   (hend : vs[hi]? = none)
   (G : Grd (At dp (some outer) gd un) base outer g ((gr, grO gb dd (.int 2 c3) (.bool false)) :: (dd, dictOf [] 0) :: (I, iterO l (lo + 1)) :: (gb, gbO I f d (.int 2 c1) (.bool false) (.str (S z0) t0) (.bool true) (.bool true) (.bool true) (.int 2 c2) (.bool false)) :: (d, dictOf [] 0) :: r) s.heap)
   (hos : ∀ q ∈ os, q ∈ r) (hl : (l, listOf vs.toArray n) ∈ r) (offI : ∀ q ∈ r, q.1 ≠ I) (offgb : ∀ q ∈ r, q.1 ≠ gb) (hI1 : gb ≠ I) (hI2 : d ≠ I) (hI3 : d ≠ gb) (hI4 : I ≠ gb) (hr1 : gr ≠ I) (hr2 : gr ≠ gb) (hr3 : dd ≠ I) (hr4 : dd ≠ gb)
   (k : ∀ g' h' tk L0 acc c, KtsTurn (outer.filterMap (·.frame)) g g' → Grd (At dp (some outer) gd un) base outer g' ((gr, grO gb dd (.int 2 c3) (.bool false)) :: (dd, dictOf [] 0) :: (I, iterX hi) :: (gb, gbO I f d (.int 2 c1) .none .none (.bool false) (.bool false) (.bool true) (.int 2 c2) (.bool false)) :: (d, dictOf [] 0) :: (L0, lstO acc c) :: r) h' → (∀ q ∈ (((gr, grO gb dd (.int 2 c3) (.bool false)) :: (dd, dictOf [] 0) :: (I, iterO l (lo + 1)) :: (gb, gbO I f d (.int 2 c1) (.bool false) (.str (S z0) t0) (.bool true) (.bool true) (.bool true) (.int 2 c2) (.bool false)) :: (d, dictOf [] 0) :: r) : List (Addr × Obj)), q.1 < L0) → StrsAre acc.toList (((ws.take hi).drop lo).map S) → Q (.ref L0) { s with heap := h', toks := tk }) :
   wpAny (model PR w) (At dp (some outer) gd un) (call (.type "list") [.ref gr]) Q E s := by
  delta PR KF at *
  revert XB; k_fill; intro XB
  have hlt : ∀ q ∈ (((gr, grO gb dd (.int 2 c3) (.bool false)) :: (dd, dictOf [] 0) :: (I, iterO l (lo + 1)) :: (gb, gbO I f d (.int 2 c1) (.bool false) (.str (S z0) t0) (.bool true) (.bool true) (.bool true) (.int 2 c2) (.bool false)) :: (d, dictOf [] 0) :: r) : List (Addr × Obj)), q.1 < s.heap.objs.size := fun q hq => Heap.lt_size (G.led q hq).1
  have X := XB.keeps (fun b o e => G.keep b o (G.below.stays b o e))
  have I0 : InstAt s.heap gr (grO gb dd (.int 2 c3) (.bool false)) 157 (some (dictOf [] 0)) := ⟨(G.led _ (.head _)).1, rfl, rfl, (G.led _ (.tail _ (.head _))).1⟩
  refine' own_list X I0 ?f1 ?f2 ?_ ?_
  case f1 => k_is
  case f2 => k_is
  · intro h' c Q' E' hk hS hk2
    have hz := Nat.le_of_lt (Heap.lt_size hS)
    exact gr_iter XB TB (s := { s with heap := h' }) hd ((G.up hk hz).at (A' := At dp (some outer) gd (un + 1 + 1)) rfl) (.head _) (.tail _ (.head _)) fun h2 tk hk3 => hk2 h2 tk hk3
  · intro h' tk c hk hS
    have hz := Nat.le_of_lt (Heap.lt_size hS)
    have ne : ∀ q ∈ (((gr, grO gb dd (.int 2 c3) (.bool false)) :: (dd, dictOf [] 0) :: (I, iterO l (lo + 1)) :: (gb, gbO I f d (.int 2 c1) (.bool false) (.str (S z0) t0) (.bool true) (.bool true) (.bool true) (.int 2 c2) (.bool false)) :: (d, dictOf [] 0) :: r) : List (Addr × Obj)), q.1 ≠ s.heap.objs.size := fun q hq => Nat.ne_of_lt (hlt q hq)
    have ne1 := ne _ (.head _)
    have ne2 := ne _ (.tail _ (.head _))
    have ne3 := ne _ (.tail _ (.tail _ (.head _)))
    have ne4 := ne _ (.tail _ (.tail _ (.tail _ (.head _))))
    have ne5 := ne _ (.tail _ (.tail _ (.tail _ (.tail _ (.head _)))))
    have ne6 : ∀ q ∈ r, q.1 ≠ s.heap.objs.size := fun q hq => ne _ (.tail _ (.tail _ (.tail _ (.tail _ (.tail _ hq)))))
    have hSg : g.get? s.heap.objs.size = none := Heap.get?_none_of_le G.size
    have Gup := (G.up hk hz).at (A' := At dp (some outer) gd (un + 1 + 1)) rfl
    refine ext_step ?_
    refine gr_item0_2 (c1 := c1) (c2 := c2) (c3 := c3) (z := z0) (t := t0) (i := lo + 1) (os := os) (l := l) (vs := vs) (n := n) (r := (s.heap.objs.size, lstO #[] c) :: r) XB TB hL hd ⟨Gup.below, Gup.dicts, Gup.keep, Gup.size, fun q hq => ?_⟩ (fun q hq => .tail _ (hos q hq)) (.tail _ hl) ?_ ?_ hI1 hI2 hI3 hI4 hr1 hr2 hr3 hr4 fun h1 tk1 G1 => ?_
    · simp only [List.mem_cons] at hq
      rcases hq with rfl | rfl | rfl | rfl | rfl | rfl | hq
      · exact Gup.led _ (.head _)
      · exact Gup.led _ (.tail _ (.head _))
      · exact Gup.led _ (.tail _ (.tail _ (.head _)))
      · exact Gup.led _ (.tail _ (.tail _ (.tail _ (.head _))))
      · exact Gup.led _ (.tail _ (.tail _ (.tail _ (.tail _ (.head _)))))
      · exact ⟨hS, hSg⟩
      · exact Gup.led _ (.tail _ (.tail _ (.tail _ (.tail _ (.tail _ hq)))))
    · intro q hq
      rcases List.mem_cons.mp hq with rfl | hq
      · exact ne3.symm
      · exact offI q hq
    · intro q hq
      rcases List.mem_cons.mp hq with rfl | hq
      · exact ne4.symm
      · exact offgb q hq
    refine ⟨#[], c, (G1.led _ (.tail _ (.tail _ (.tail _ (.tail _ (.tail _ (.head _))))))).1, by simp [sizeLine], fun h2 c2' hS2 hsb hz2 => ?_⟩
    refine grp_loop2 (s₀ := s) (ws := ws) (lo := lo) (hi := hi) (os := os) (l := l) (vs := vs) (n := n) (r := r) XB TB hL hd hhi ?_ hos hl offI offgb ne6 hI1 hI2 hI3 hI4 hr1 hr2 hr3 hr4 ne1 ne2 ne3 ne4 ne5 hend (fun g' h' tk acc c hT G' ha => ⟨rfl, k g' h' tk _ acc c hT (G'.at rfl) hlt ha⟩) (hi - (lo + 1)) (lo + 1) h2 tk1 ((#[] : Array Value).push (.str (S z0) t0)) c2' rfl (Nat.le_succ _) hlo (G1.set ⟨_, .tail _ (.tail _ (.tail _ (.tail _ (.tail _ (.head _)))))⟩ hsb hS2 hz2 fun q hq => ?_) ?_ (Nat.le_add_left 1 lo)
    · exact hgrp
    · simp only [List.mem_cons] at hq ⊢
      rcases hq with rfl | rfl | rfl | rfl | rfl | rfl | hq
      · exact .inr ⟨.inl rfl, ne1⟩
      · exact .inr ⟨.inr (.inl rfl), ne2⟩
      · exact .inr ⟨.inr (.inr (.inl rfl)), ne3⟩
      · exact .inr ⟨.inr (.inr (.inr (.inl rfl))), ne4⟩
      · exact .inr ⟨.inr (.inr (.inr (.inr (.inl rfl)))), ne5⟩
      · exact .inl rfl
      · exact .inr ⟨.inr (.inr (.inr (.inr (.inr (.inr hq))))), ne6 q hq⟩
    · rw [take_drop_succ hz0 (Nat.le_refl lo), List.drop_of_length_le (by rw [List.length_take]; exact Nat.min_le_left _ _)]
      exact .cons _ _ .nil
end Mine
end

section
open PySem PySem.W PySem.Calls PyProof.Rows PySem.Spec
set_option Elab.async false
namespace Mine
section
local macro_rules | `(tactic| k_room) => `(tactic| ((try simp only [depth_under_make, depth_under_kw, depth_in1, depth_deeper, depth_caller]); (try dsimp only [At]); simp only [recursionLimit]; omega))
local macro_rules | `(tactic| k_all) => `(tactic| first | with_reducible assumption | exact allLt_get (by with_reducible assumption) | exact allLt_g1 (by with_reducible assumption) | exact allLt_g2 (by with_reducible assumption) | exact allLt_g3 (by with_reducible assumption) | exact allLt_g4 (by with_reducible assumption) | exact allLt_g5 (by with_reducible assumption) | exact allLt_g6 (by with_reducible assumption) | exact allLt_g7 (by with_reducible assumption) | exact allLt_g8 (by with_reducible assumption) | exact allLt_g9 (by with_reducible assumption) | exact allLt_g10 (by with_reducible assumption) | exact allLt_g11 (by with_reducible assumption) | exact allLt_g12 (by with_reducible assumption) | exact allLt_up (by with_reducible assumption) (by with_reducible assumption) | exact allLt_u1 (by with_reducible assumption) (by with_reducible assumption) | exact allLt_u2 (by with_reducible assumption) (by with_reducible assumption) | exact allLt_u3 (by with_reducible assumption) (by with_reducible assumption) | exact allLt_u4 (by with_reducible assumption) (by with_reducible assumption) | exact allLt_u5 (by with_reducible assumption) (by with_reducible assumption) | exact allLt_u6 (by with_reducible assumption) (by with_reducible assumption) | exact allLt_u7 (by with_reducible assumption) (by with_reducible assumption) | exact allLt_u8 (by with_reducible assumption) (by with_reducible assumption) | exact allLt_u9 (by with_reducible assumption) (by with_reducible assumption) | exact allLt_u10 (by with_reducible assumption) (by with_reducible assumption) | exact allLt_u11 (by with_reducible assumption) (by with_reducible assumption) | exact allLt_u12 (by with_reducible assumption) (by with_reducible assumption))
local macro_rules | `(tactic| size_fits) => `(tactic| exact Nat.le_of_ble_eq_true rfl)
set_option maxRecDepth 100000 in
set_option maxHeartbeats 8000000 in
theorem gb_switch {w : World} {base : Heap} {loose : List PySem.Str} {mean : ExcName → Option Value} {mg mb : PySem.Str → Option Value} (XB : (KF w).In base) (TB : Top PySem.W.topProg loose mean mg mb base)
   {dp un : Nat} {outer : List Env} {gd : Option (List Code)} {s : Shared} {Q : Option Value → Shared → Prop} {E : Value → Shared → Prop} {g : Heap} {x z : List Nat} {f I gb d gr dd l : Addr} {os r : List (Addr × Obj)} {vs : List Value} {n i : Nat} {t c1 c2 c3 : Tok}
   (hd : dp < 980)
   (G : Grd (At dp (some outer) gd un) base outer g ((I, iterO l i) :: (gb, gbO I f d (.int 1 c1) (.bool false) (.str (S z) t) (.bool true) (.bool true) (.bool true) (.int 1 c2) (.bool true)) :: (d, dictOf [] 0) :: r) s.heap)
   (offI : ∀ q ∈ r, q.1 ≠ I) (offgb : ∀ q ∈ r, q.1 ≠ gb) (hI1 : gb ≠ I) (hI2 : d ≠ I) (hI3 : d ≠ gb) (hI4 : I ≠ gb)
   (k : ∀ h' tk T gr dd c1 c2 c3, Grd (At dp (some outer) gd un) base outer g ((T, tup2 (.bool false) (.ref gr)) :: (gr, grO gb dd (.int 2 c3) (.bool false)) :: (dd, dictOf [] 0) :: (I, iterO l i) :: (gb, gbO I f d (.int 2 c1) (.bool false) (.str (S z) t) (.bool true) (.bool true) (.bool true) (.int 2 c2) (.bool false)) :: (d, dictOf [] 0) :: r) h' →
     (I < dd ∧ gb < dd ∧ d < dd ∧ AllLt dd r) → dd < gr → gr < T → Q (some (.ref T)) { s with heap := h', toks := tk }) :
   wpAny (model PR w) (At dp (some outer) gd un) (pyNext (.ref gb)) Q E s := by
   delta PR KF at *
   revert XB; k_fill; intro XB
   have hd0 := (G.led _ (.tail _ (.tail _ (.head _)))).1
   have hgb := (G.led _ (.tail _ (.head _))).1
   refine' gr_next (XB.keeps (fun b o e => G.keep b o (G.below.stays b o e))) (C := 112) (ox := gbO I f d (.int 1 c1) (.bool false) (.str (S z) t) (.bool true) (.bool true) (.bool true) (.int 1 c2) (.bool true)) (od := some (dictOf [] 0)) ?inst ?f1 ?f2 ?_
   case f1 => k_is
   case f2 => k_is
   case inst => exact ⟨hgb, rfl, rfl, hd0⟩
   refine wpAny_call ?_
   k_dflt (refine' enter_grd G XB TB ?k6 ?k7 ?k8 ?k9 ?kB ?_ ?c2 ?c3 ?c4 ?c5; (case k6 => k_is); (case k7 => k_is); (case k8 => k_room); (case k9 => exact BindsTo.of_eq rfl); (case kB => exact locs rfl); (case c2 => exact rfl); (case c3 => exact rfl); (case c4 => exact rfl); (case c5 => decide); k_whole)
   intro L h₁ hLs F' N' B' X' T' D' K0
   (try dsimp only)
   k_steps
   exact k _ _ _ _ _ _ _ _ (G.back (by k_asm) (by k_asm) (fun q hq => hq)) (by with_reducible assumption) (by with_reducible assumption) (And.left (by with_reducible assumption))
end
end Mine
end

section
open PySem PySem.W PySem.Calls PyProof.Rows PySem.Spec
set_option Elab.async false
namespace Mine
section
local macro_rules | `(tactic| k_room) => `(tactic| ((try simp only [depth_under_make, depth_under_kw, depth_in1, depth_deeper, depth_caller]); (try dsimp only [At]); simp only [recursionLimit]; omega))
local macro_rules | `(tactic| k_all) => `(tactic| first | with_reducible assumption | exact allLt_get (by with_reducible assumption) | exact allLt_g1 (by with_reducible assumption) | exact allLt_g2 (by with_reducible assumption) | exact allLt_g3 (by with_reducible assumption) | exact allLt_g4 (by with_reducible assumption) | exact allLt_g5 (by with_reducible assumption) | exact allLt_g6 (by with_reducible assumption) | exact allLt_g7 (by with_reducible assumption) | exact allLt_g8 (by with_reducible assumption) | exact allLt_g9 (by with_reducible assumption) | exact allLt_g10 (by with_reducible assumption) | exact allLt_g11 (by with_reducible assumption) | exact allLt_g12 (by with_reducible assumption) | exact allLt_up (by with_reducible assumption) (by with_reducible assumption) | exact allLt_u1 (by with_reducible assumption) (by with_reducible assumption) | exact allLt_u2 (by with_reducible assumption) (by with_reducible assumption) | exact allLt_u3 (by with_reducible assumption) (by with_reducible assumption) | exact allLt_u4 (by with_reducible assumption) (by with_reducible assumption) | exact allLt_u5 (by with_reducible assumption) (by with_reducible assumption) | exact allLt_u6 (by with_reducible assumption) (by with_reducible assumption) | exact allLt_u7 (by with_reducible assumption) (by with_reducible assumption) | exact allLt_u8 (by with_reducible assumption) (by with_reducible assumption) | exact allLt_u9 (by with_reducible assumption) (by with_reducible assumption) | exact allLt_u10 (by with_reducible assumption) (by with_reducible assumption) | exact allLt_u11 (by with_reducible assumption) (by with_reducible assumption) | exact allLt_u12 (by with_reducible assumption) (by with_reducible assumption))
local macro_rules | `(tactic| size_fits) => `(tactic| exact Nat.le_of_ble_eq_true rfl)
local macro_rules | `(tactic| walk_at "call ref") => `(tactic| (k_here; (fail_if_success k_inElt); k_dflt (refine wpAny_call ?_; kts_go)))
local macro_rules | `(tactic| k_enter) => `(tactic| ((fail_if_success k_inElt); kts_go))
set_option maxRecDepth 100000 in
set_option maxHeartbeats 8000000 in
theorem gb_end {w : World} {base : Heap} {loose : List PySem.Str} {mean : ExcName → Option Value} {mg mb : PySem.Str → Option Value} (XB : (KF w).In base) (TB : Top PySem.W.topProg loose mean mg mb base)
   {dp un : Nat} {outer : List Env} {gd : Option (List Code)} {s : Shared} {Q : Option Value → Shared → Prop} {E : Value → Shared → Prop} {g : Heap} {x z : List Nat} {f I gb d gr dd l : Addr} {os r : List (Addr × Obj)} {vs : List Value} {n i : Nat} {t c1 c2 c3 : Tok}
   (hd : dp < 980)
   (G : Grd (At dp (some outer) gd un) base outer g ((I, iterX i) :: (gb, gbO I f d (.int 2 c1) .none .none (.bool false) (.bool false) (.bool true) (.int 2 c2) (.bool false)) :: (d, dictOf [] 0) :: r) s.heap)
   (offI : ∀ q ∈ r, q.1 ≠ I) (offgb : ∀ q ∈ r, q.1 ≠ gb) (hI1 : gb ≠ I) (hI2 : d ≠ I) (hI3 : d ≠ gb) (hI4 : I ≠ gb)
   (k : ∀ g' h' tk c1, KtsTurn (outer.filterMap (·.frame)) g g' → Grd (At dp (some outer) gd un) base outer g' ((I, iterX i) :: (gb, gbO I f d (.int 0 c1) .none .none (.bool false) (.bool false) (.bool true) (.int 2 c2) (.bool false)) :: (d, dictOf [] 0) :: r) h' → Q none { s with heap := h', toks := tk }) :
   wpAny (model PR w) (At dp (some outer) gd un) (pyNext (.ref gb)) Q E s := by
   refine wpAny_grow ?_
   delta PR KF at *
   revert XB; k_fill; intro XB
   have hd0 := (G.led _ (.tail _ (.tail _ (.head _)))).1
   have hgb := (G.led _ (.tail _ (.head _))).1
   refine' gr_next (XB.keeps (fun b o e => G.keep b o (G.below.stays b o e))) (C := 112) (ox := gbO I f d (.int 2 c1) .none .none (.bool false) (.bool false) (.bool true) (.int 2 c2) (.bool false)) (od := some (dictOf [] 0)) ?inst ?f1 ?f2 ?_
   case f1 => k_is
   case f2 => k_is
   case inst => exact ⟨hgb, rfl, rfl, hd0⟩
   refine wpAny_call ?_
   k_dflt (refine' enter_grd G XB TB ?k6 ?k7 ?k8 ?k9 ?kB ?_ ?c2 ?c3 ?c4 ?c5; (case k6 => k_is); (case k7 => k_is); (case k8 => k_room); (case k9 => exact BindsTo.of_eq rfl); (case kB => exact locs rfl); (case c2 => exact rfl); (case c3 => exact rfl); (case c4 => exact rfl); (case c5 => decide); k_whole)
   intro L h₁ hLs F' N' B' X' T' D' K0
   (try dsimp only)
   repeat' ((fail_if_success (with_reducible show wpAny _ _ (call (Value.builtin "next") [Value.ref I]) _ _ _)); first | (k_unfold; (try dsimp only)) | (k_end; wrow_close) | walk1 | (dsimp only; walk1) | (leave1; walk_say "STEP leave1"; try dsimp only) | fail "no step")
   refine li_stop2 (by k_asm) (by k_mem) rfl ?_
   intro h' e x'
   k_dflt (refine' caught_M0 (T' := "StopIteration") x' ?qF ?qN ?qK ?qX ?qT ?qD ?q0 ?qe PyProof.Rows.Boot.«StopIteration» ?qn isExc_Stop notTuple_Stop ?qs ?_; (case qF => k_asm); (case qN => k_asm); (case qK => k_asm); (case qX => assumption); (case qT => assumption); (case qD => assumption); (case q0 => first | assumption | exact KtsTurn.refl); (case qs => kts_sub); (case qe => k_is); (case qn => decide); k_whole)
   clear x'
   intro h9 g9 T9 F' N' K9 X9 P9 D9
   (try k_lift K9)
   (try k_sweep)
   k_steps
   rename KtsTurn _ _ _ => tZ
   obtain ⟨g1, T1, F1, B1⟩ := turn_fr B' (by with_reducible assumption) tZ
   refine leave_onS B1 F1 (by with_reducible assumption) (by with_reducible assumption) ?_
   intro h8 S8 R8 U8
   refine stop_S S8 ?_
   intro hz'
   obtain ⟨g', T2, G1⟩ := raised_groundK B1 (D'.turn T1) S8 U8 (by rw [T1.size]; exact Nat.le_trans G.size hz')
   exact k _ _ _ _ (T1.trans T2) (G1.sub (fun q hq => .tail _ hq))
end
end Mine
end

section
open PySem PySem.W PySem.Calls PyProof.Rows PySem.Spec
set_option Elab.async false
set_option maxRecDepth 100000
namespace Mine
section
variable {prog : Program} {w : World} {A : Around} {R : GenEnd} {Y : Protocol} {n : Nat} {s₀ s : Shared} {elt iter : Expr} {x : PySem.Str} {px : Pos} {scope : Scope} {pos : Pos} {I : Addr} {cenv : Env}
abbrev loopC (elt iter : Expr) (x : PySem.Str) (px : Pos) (scope : Scope) (pos : Pos) (I : Addr) (cenv : Env) : Code := .compLoop (.GeneratorExp elt [⟨.Name x px, iter, [], 0⟩] scope pos) 0 (.ref I) .none cenv
/-- one turn of a generator expression -/
theorem seg_turn (hco : cenv.scope.isCoroutine = false)
    (h : wpAny (model prog w) (A.over (loopC elt iter x px scope pos I cenv) []) (pyNext (.ref I)) (fun r s1 => match r with
      | none => R n s₀ (.ok .next) s1
      | some v => letOwnedTupleGo (.Name x px) (.ref I) v = pure () ∧ wpAny (model prog w) (A.over (loopC elt iter x px scope pos I cenv) []) (storeName cenv x v) (fun _ s2 => wpAny (model prog w) (A.over (loopC elt iter x px scope pos I cenv) []) (eval elt cenv) (fun y s3 =>
          ∃ m, n = m + 1 ∧ Y m s₀ y s3 (fun r s'' => r = .send .none → Seg (model prog w) A R Y m s'' (loopC elt iter x px scope pos I cenv) ((model prog w).den (loopC elt iter x px scope pos I cenv)) [] s'')) (fun _ _ => False) s2) (fun _ _ => False) s1) (fun _ _ => False) s)
    (hY : ∀ m s₀ y s3 (k1 k2 : Resume → Shared → Prop), (∀ s'', k1 (.send .none) s'' → k2 (.send .none) s'') → Y m s₀ y s3 k1 → Y m s₀ y s3 k2) :
    Seg (model prog w) A R Y n s₀ (loopC elt iter x px scope pos I cenv) ((model prog w).den (loopC elt iter x px scope pos I cenv)) [] s := by
  show Seg _ A _ _ _ s₀ _ ((compTurn (.GeneratorExp elt [⟨.Name x px, iter, [], 0⟩] scope pos) 0 (.ref I) .none cenv).onRaise (leaving cenv)) [] s
  rw [compTurn_gen, Sem.onRaise_eq_wrap]
  refine seg_bind_wrap (wpAny_standAt ?_)
  refine seg_bind_wrap (wpAny_mono h (fun r s1 hr => ?_) fun _ _ e => e.elim)
  cases r with
  | none => exact seg_end (.ok .next) hr
  | some v =>
    obtain ⟨ht, hr⟩ := hr
    refine seg_bind_wrap (wpAny_of_eq ht ?_)
    refine seg_bind_wrap (wpAny_assign_Name (wpAny_mono hr (fun _ s2 h2 => ?_) fun _ _ e => e.elim))
    refine seg_bind_wrap (show wpAny _ _ (pure true) _ _ _ from wpAny_pure ?_)
    simp only [if_true]
    have hy : ∀ v, yieldOut cenv v = yieldValue v := fun v => by simp only [yieldOut, hco, Bool.false_eq_true, if_false]
    simp only [hy]
    rw [Sem.bind_eq_wrap', Sem.bind_eq_wrap', Sem.wrap_wrap, Sem.wrap_wrap]
    refine seg_wrap (wpAny_mono h2 (fun y s3 h3 => ?_) fun _ _ e => e.elim)
    obtain ⟨m, rfl, hYy⟩ := h3
    refine seg_at (seg_yield rfl rfl rfl (hY _ _ _ _ _ _ (fun s'' hk => ?_) hYy))
    exact seg_again rfl (hk rfl)
abbrev startC (elt iter : Expr) (x : PySem.Str) (px : Pos) (scope : Scope) (pos : Pos) (I : Addr) (cenv : Env) : Code := .compStart (.GeneratorExp elt [⟨.Name x px, iter, [], 0⟩] scope pos) 0 (.ref I) .none cenv
theorem seg_start (h1 : Seg (model prog w) A R Y n s₀ (loopC elt iter x px scope pos I cenv) ((model prog w).den (loopC elt iter x px scope pos I cenv)) [] s)
    (h2 : wpAny (model prog w) (A.over (startC elt iter x px scope pos I cenv) []) (pyIter (.ref I)) (fun v s' => v = .ref I ∧ Seg (model prog w) A R Y n s₀ (loopC elt iter x px scope pos I cenv) ((model prog w).den (loopC elt iter x px scope pos I cenv)) [] s') (fun _ _ => False) s) :
    Seg (model prog w) A R Y n s₀ (startC elt iter x px scope pos I cenv) ((model prog w).den (startC elt iter x px scope pos I cenv)) [] s := by
  show Seg _ A _ _ _ s₀ _ ((compStart (.GeneratorExp elt [⟨.Name x px, iter, [], 0⟩] scope pos) 0 (.ref I) .none cenv).onRaise (leaving cenv)) [] s
  unfold compStart
  rw [Sem.onRaise_eq_wrap]
  show Seg _ A _ _ _ s₀ _ ((ask >>= _).wrap _ _ _ _) [] s
  refine seg_bind_wrap (wpAny_askSetting ?_)
  split
  · exact seg_again rfl h1
  · refine seg_bind_wrap (wpAny_rule ?_)
    show Seg _ A _ _ _ s₀ _ ((standAt iter.pos >>= _).wrap _ _ _ _) [] s
    refine seg_bind_wrap (wpAny_standAt (seg_bind_wrap (wpAny_mono h2 (fun v s' hv => ?_) fun _ _ e => e.elim)))
    obtain ⟨rfl, hv⟩ := hv
    exact seg_again rfl hv
end
end Mine
end

section
open PySem PySem.W PySem.Calls PyProof.Rows PySem.Spec
set_option Elab.async false
namespace Mine
section
local macro_rules | `(tactic| k_room) => `(tactic| ((try simp only [depth_under_make, depth_under_kw, depth_in1, depth_deeper, depth_caller]); (try dsimp only [At]); simp only [recursionLimit]; omega))
local macro_rules | `(tactic| k_all) => `(tactic| first | with_reducible assumption | exact allLt_get (by with_reducible assumption) | exact allLt_g1 (by with_reducible assumption) | exact allLt_g2 (by with_reducible assumption) | exact allLt_g3 (by with_reducible assumption) | exact allLt_g4 (by with_reducible assumption) | exact allLt_g5 (by with_reducible assumption) | exact allLt_g6 (by with_reducible assumption) | exact allLt_g7 (by with_reducible assumption) | exact allLt_g8 (by with_reducible assumption) | exact allLt_g9 (by with_reducible assumption) | exact allLt_g10 (by with_reducible assumption) | exact allLt_g11 (by with_reducible assumption) | exact allLt_g12 (by with_reducible assumption) | exact allLt_up (by with_reducible assumption) (by with_reducible assumption) | exact allLt_u1 (by with_reducible assumption) (by with_reducible assumption) | exact allLt_u2 (by with_reducible assumption) (by with_reducible assumption) | exact allLt_u3 (by with_reducible assumption) (by with_reducible assumption) | exact allLt_u4 (by with_reducible assumption) (by with_reducible assumption) | exact allLt_u5 (by with_reducible assumption) (by with_reducible assumption) | exact allLt_u6 (by with_reducible assumption) (by with_reducible assumption) | exact allLt_u7 (by with_reducible assumption) (by with_reducible assumption) | exact allLt_u8 (by with_reducible assumption) (by with_reducible assumption) | exact allLt_u9 (by with_reducible assumption) (by with_reducible assumption) | exact allLt_u10 (by with_reducible assumption) (by with_reducible assumption) | exact allLt_u11 (by with_reducible assumption) (by with_reducible assumption) | exact allLt_u12 (by with_reducible assumption) (by with_reducible assumption))
local macro_rules | `(tactic| size_fits) => `(tactic| exact Nat.le_of_ble_eq_true rfl)
set_option maxRecDepth 100000 in
set_option maxHeartbeats 8000000 in
theorem gb_iter {w : World} {base : Heap} {loose : List PySem.Str} {mean : ExcName → Option Value} {mg mb : PySem.Str → Option Value} (XB : (KF w).In base) (TB : Top PySem.W.topProg loose mean mg mb base)
   {dp un : Nat} {outer : List Env} {gd : Option (List Code)} {s : Shared} {Q : Value → Shared → Prop} {E : Value → Shared → Prop} {g : Heap} {I f gr dd : Addr} {cg ck cv hck hcv htk ser tk : Value} {led : List (Addr × Obj)}
   (hd : dp < 980) (G : Grd (At dp (some outer) gd un) base outer g led s.heap) (hm : (gr, gbO I f dd cg ck cv hck hcv htk ser tk) ∈ led) (hdd : (dd, dictOf [] 0) ∈ led)
   (k : ∀ h' tk, (∀ b o, s.heap.get? b = some o → h'.get? b = some o) → Q (.ref gr) { s with heap := h', toks := tk }) :
   wpAny (model PR w) (At dp (some outer) gd un) (pyIter (.ref gr)) Q E s := by
   delta PR KF at *
   revert XB; k_fill; intro XB
   have hd0 := (G.led _ hdd).1
   have hgb := (G.led _ hm).1
   have G2 := G.whole (A' := At dp (some outer) gd un) rfl
   have I0 : ∀ h' : Heap, (∀ b o, s.heap.get? b = some o → h'.get? b = some o) → InstAt h' gr (gbO I f dd cg ck cv hck hcv htk ser tk) 112 (some (dictOf [] 0)) := fun h' hk => ⟨hk _ _ hgb, rfl, rfl, hk _ _ hd0⟩
   refine' gr_iterC (XB.keeps (fun b o e => G.keep b o (G.below.stays b o e))) (C := 112) (ox := gbO I f dd cg ck cv hck hcv htk ser tk) (od := some (dictOf [] 0)) ?inst ?f1 ?f2 ?f3 ?_
   case f1 => k_is
   case f2 => k_is
   case f3 => k_is
   case inst => exact I0 _ (fun _ _ e => e)
   refine wpAny_call ?_
   k_dflt (refine' enter_grd G2 XB TB ?k6 ?k7 ?k8 ?k9 ?kB ?_ ?c2 ?c3 ?c4 ?c5; (case k6 => k_is); (case k7 => k_is); (case k8 => k_room); (case k9 => exact BindsTo.of_eq rfl); (case kB => exact locs rfl); (case c2 => exact rfl); (case c3 => exact rfl); (case c4 => exact rfl); (case c5 => decide); k_whole)
   intro L h₁ hLs F' N' B' X' T' D' K0
   (try dsimp only)
   k_steps
   · exact I0 _ F'.keep
   · exact k _ _ F'.keep
end
end Mine
end

section
open PySem PySem.W PySem.Calls PyProof.Rows PySem.Spec
set_option Elab.async false
set_option maxRecDepth 100000
namespace Mine
section
variable {prog : Program} {w : World} {A : Around} {E : Value → Shared → Prop} {s : Shared}
/-- the items of a generator, the turns given one by one -/
theorem gen_collect {a : Addr} {gi : Nat} {Q : List Value → Shared → Prop} (hg : s.heap.IsGen a gi)
    (hloop : ∀ h' c, (∀ b o, s.heap.get? b = some o → h'.get? b = some o) → h'.get? s.heap.objs.size = some (lstO #[] c) →
      codeAny (model prog w) A (.builtin "list.extend.loop" ⟨[.ref s.heap.objs.size, .ref a, .ref s.heap.objs.size], []⟩) (fun r s' => r = .ok (.ret (.ref s.heap.objs.size)) ∧ ∃ acc c, s'.heap.get? s.heap.objs.size = some (lstO acc c) ∧ Q acc.toList s') { s with heap := h' }) :
    wpAny (model prog w) A (collect (.ref a)) Q E s := by
  have hSI : s.heap.objs.size ≠ a := fun e => by obtain ⟨o, ho, _⟩ := id hg.typeIs; rw [← e] at ho; exact absurd (Heap.lt_size ho) (Nat.lt_irrefl _)
  have hT : s.TypeIs (.ref a) "generator" := hg.typeIs
  unfold collect
  refine wpAny_bind (wpAny_runValue (codeAny_builtin F.entry_proto_collect ?_))
  rw [Around.under_plainId F.plain_proto_collect _]
  show wpAny _ A.in1 (newList [] >>= fun l => again (.builtin "list.__iadd__" ⟨[l, .ref a], []⟩)) _ _ s
  refine wpAny_bind (wpAny_newObj_type ?_)
  refine wpAny_pure ⟨plainId_quiet F.plain_list_iadd _, codeAny_builtin F.entry_list_iadd ?_⟩
  rw [Around.under_plainId F.plain_list_iadd _]
  have hg₁ : (s.heap.push { cls := .type "list", data := .seq ([] : List Value).toArray }).IsGen a gi := hg.push _
  show wpAny _ A.in1 (Builtin.List.listExtendWith (.ref s.heap.objs.size) (.ref a) (.ref s.heap.objs.size)) _ _ _
  unfold Builtin.List.listExtendWith
  refine wpAny_bind (wpAny_typeOf hg₁.typeIs ?_)
  have h1 : Builtin.List.listSameRef (.ref s.heap.objs.size) (.ref a) = false := by simp [Builtin.List.listSameRef, hSI]
  have h2 : (Value.type "generator" == Value.type "list") = false := by decide
  have h3 : (Value.type "generator" == Value.type "tuple") = false := by decide
  simp only [h1, h2, h3, Bool.or_false, Bool.false_eq_true, if_false]
  refine wpAny_bind (wpAny_pyIter_gen hg₁ ?_)
  refine wpAny_bind (wpAny_holding ?_)
  unfold Builtin.List.listLengthHint
  refine wpAny_bind (wpAny_specialOf hg₁.typeIs F.gen_no_len ?_)
  show wpAny _ A.in1 (specialOf (Value.ref a) (Str.ofString "__length_hint__") >>= _) _ _ _
  refine wpAny_bind (wpAny_specialOf hg₁.typeIs F.gen_no_hint ?_)
  refine wpAny_pure ?_
  show wpAny _ A.in1 (rule "list.extend.makes-room" >>= fun _ => Builtin.List.listTouch (.ref s.heap.objs.size) >>= fun _ =>
    again (.builtin "list.extend.loop" ⟨[.ref s.heap.objs.size, .ref a, .ref s.heap.objs.size], []⟩)) _ _ _
  refine wpAny_bind (wpAny_rule ?_)
  have hS₁ : (s.heap.push { cls := .type "list", data := .seq ([] : List Value).toArray }).get? s.heap.objs.size = some { cls := .type "list", data := .seq ([] : List Value).toArray } := Heap.get?_push_size _ rfl
  refine wpAny_bind ?_
  show wpAny _ A.in1 (updateSeq s.heap.objs.size (·.push .none) >>= fun _ => updateSeq s.heap.objs.size (·.pop)) _ _ _
  refine wpAny_bind (wpAny_updateSeq hS₁ rfl ?_)
  have hS₂ := Heap.get?_update_self (Obj.mapSeq (·.push Value.none)) hS₁ rfl
  refine wpAny_updateSeq hS₂ rfl ?_
  have hS₃ := Heap.get?_update_self (Obj.mapSeq (·.pop)) hS₂ rfl
  refine wpAny_pure ⟨plainId_quiet F.plain_extend_loop _, codeAny_mono (hloop _ _ (fun b o e => ?_) hS₃) fun r s' hr => ?_⟩
  · have hb : b ≠ s.heap.objs.size := Nat.ne_of_lt (Heap.lt_size e)
    exact (Heap.get?_update_other _ _ (Ne.symm hb)).trans ((Heap.get?_update_other _ _ (Ne.symm hb)).trans (Heap.get?_push_of_some _ e))
  · obtain ⟨rfl, acc, c, hS, hQ⟩ := hr
    show wpAny _ A (load s.heap.objs.size >>= _) _ _ s'
    exact wpAny_bind (wpAny_load hS (wpAny_pure hQ))
/-- x.join over a generator -/
theorem gen_join {a : Addr} {gi : Nat} {x : PySem.Str} {t : Tok} {Q : Value → Shared → Prop} (hg : s.heap.IsGen a gi)
    (hcol : wpAny (model prog w) A.in1 (collect (.ref a)) (fun items s' => ∃ l : List (PySem.Str × Tok), items = strValues l ∧ JoinOk x (l.map (·.1)) = true ∧ ∀ t' k, Q (.str (Txt.join x (l.map (·.1))) t') { s' with toks := k }) (fun _ _ => False) s) :
    wpAny (model prog w) A (call (.builtin "str.join") [.str x t, .ref a]) Q E s := by
  refine wpAny_call (codeAny_call_builtin F.slot_str_join.plain F.entry_str_join (F.slot_str_join.check _ _ _ _ _ _ _ _ (typeIs_str _ _ _) (F.args_str_join_2 _ _) ?_))
  rw [join_tree_other]
  refine wpAny_bind (wpAny_typeOf hg.typeIs ?_)
  show wpAny _ A.in1 ((pyIter (.ref a)).tryCatch _ >>= fun it => collect it >>= fun items => joinTail x items) _ _ s
  refine wpAny_bind (wpAny_tryCatch (wpAny_pyIter_gen hg ?_))
  refine wpAny_bind (wpAny_mono hcol (fun items s' h => ?_) fun _ _ e => e.elim)
  obtain ⟨l, rfl, hok, hpost⟩ := h
  unfold JoinOk at hok
  rw [Bool.not_eq_true'] at hok
  have g : Gives (joinTail x (strValues l)) (joinMade x l) := by
    have g0 := gives_joinTail x l hok
    cases l with
    | nil => exact g0
    | cons p r => cases r with
      | nil => exact g0
      | cons q r' => exact g0
  exact g prog w A (wants Q E) s' (post_join l ⟨joinFit_length hok, hpost⟩)
end
end Mine
end

section
open PySem PySem.W PySem.Calls PyProof.Rows PySem.Spec
set_option Elab.async false
set_option maxRecDepth 100000
namespace Mine
/-- the generator's own environment -/
structure GEnv (cenv : Env) (C : Addr) : Prop where
  fk : cenv.scope.kind = .function
  co : cenv.scope.isCoroutine = false
  loc : cenv.locals = C
  frm : cenv.frame = some C
  grp : cenv.kindOf (PySem.Str.ofString "group") = some .local
  glI : cenv.kindOf (PySem.Str.ofString "regex_opt_inner") = some .globalImplicit
  glL : cenv.kindOf (PySem.Str.ofString "list") = some .globalImplicit
  gl : cenv.globals = mainGlobals
  bi : cenv.builtins = builtinsNs
abbrev eltC (p1 p2 p3 p4 p5 p6 p7 p8 : Pos) : Expr :=
  .Call (.Name (PySem.Str.ofString "regex_opt_inner") p1) [.Call (.Name (PySem.Str.ofString "list") p2) [.Subscript (.Name (PySem.Str.ofString "group") p3) (.Constant (.int 1) 0 p4) p5] [] p6, .Constant (.str (PySem.Str.ofString "")) 0 p7] [] p8
section
local macro_rules | `(tactic| size_fits) => `(tactic| exact Nat.le_of_ble_eq_true rfl)
set_option maxHeartbeats 4000000 in
theorem elt_group {w : World} {base : Heap} {loose : List PySem.Str} {mean : ExcName → Option Value} {mg mb : PySem.Str → Option Value} (XB : (KF w).In base) (TB : Top PySem.W.topProg loose mean mg mb base)
   {A : Around} {s : Shared} {Q E : Value → Shared → Prop} {cenv : Env} {C Tp gr : Addr} {m : PySem.Str → Option Value} {b : Value} {p1 p2 p3 p4 p5 p6 p7 p8 : Pos} (J : GEnv cenv C) (st : base.StaysIn s.heap) (hn : s.heap.Ns C m) (hm : m (PySem.Str.ofString "group") = some (.ref Tp))
   (hT : s.heap.get? Tp = some (tup2 b (.ref gr)))
   (h : ∀ tk, wpAny (model PR w) A (call (.type "list") [.ref gr]) (fun v s1 => ∀ tk' t, base.StaysIn s1.heap ∧ wpAny (model PR w) A (call (.ref 179) [v, .str (S []) t]) Q E { s1 with toks := tk' }) E { s with toks := tk }) :
   wpAny (model PR w) A (eval (eltC p1 p2 p3 p4 p5 p6 p7 p8) cenv) Q E s := by
  delta PR KF at *
  revert XB; k_fill; intro XB
  have XS := XB.keeps st
  have TS := TB.keeps st
  have hI := mg_of XB TB.g (n := PySem.Str.ofString "regex_opt_inner") (v := .ref 179) (by k_is)
  have hLn := mg_none_of XB TB.g (n := PySem.Str.ofString "list") (by k_is)
  have hLb : mb (PySem.Str.ofString "list") = some (.type "list") := (TB.builtins _ (by decide +kernel)).trans (by decide +kernel)
  refine Call_ (wpAny_Name (ks_loadName_global J.fk J.glI (loadGlobal_global (show s.heap.Ns cenv.globals mg from J.gl ▸ TS.g) hI ?_)))
  refine callWith_K XB (by k_is) ?_
  refine args_cons ?_
  refine Call_Name1 (wpAny_Name (ks_loadName_global J.fk J.glL (loadGlobal_builtin (show s.heap.Ns cenv.globals mg from J.gl ▸ TS.g) hLn (show s.heap.Ns cenv.builtins mb from J.bi ▸ TS.b) hLb ?_))) (by rfl)
  refine PySem.callWith_type rfl (evalArgs_plain (spliced_cons ?_))
  refine Subscript_ (wpAny_Name (wpAny_loadName_local J.fk J.grp (J.loc.symm ▸ hn) hm ?_))
  refine wpAny_Constant_int ?_
  refine item_tuple (j := 1) (items := #[b, .ref gr]) (x := .ref gr) ⟨_, hT, rfl, _, rfl⟩ (by decide) (by decide) (by rfl) (by rfl) ?_
  refine spliced_nil ?_
  refine wpAny_mono (h _) (fun v s1 hs => ?_) fun _ _ e => e
  refine args_cons (wpAny_Constant_str (args_nil ?_))
  obtain ⟨h1, h2⟩ := hs (s1.toks + 1) s1.toks
  exact ⟨XB.keeps h1, h2⟩
end
end Mine
end

section
open PySem PySem.W PySem.Calls PyProof.Rows PySem.Spec
set_option Elab.async false
set_option maxRecDepth 100000
namespace Mine
def NoStr (o : Obj) : Prop := ∀ vs q t, o.data = .fields vs → vs[1]? ≠ some (.str q t)
theorem noStr_iterO (l : Addr) (i : Nat) : NoStr (iterO l i) := fun vs q t e h => by
  obtain rfl : #[Value.ref l, Value.int (i : Int) 0] = vs := by injection e
  simp at h
theorem noStr_iterX (i : Nat) : NoStr (iterX i) := fun vs q t e h => by
  obtain rfl : #[Value.none, Value.int (i : Int) 0] = vs := by injection e
  simp at h
theorem noStr_gb (I f d : Addr) (cg ck cv hck hcv htk ser tk : Value) : NoStr (gbO I f d cg ck cv hck hcv htk ser tk) := fun vs q t e h => by cases e
theorem noStr_lst (acc : Array Value) (c : Nat) : NoStr (lstO acc c) := fun vs q t e h => by cases e
def offF (I gb Sa : Addr) (led : List (Addr × Obj)) : List (Addr × Obj) := led.filter fun q => decide (q.1 ≠ I ∧ q.1 ≠ gb ∧ q.1 ≠ Sa)
theorem offF_sub {I gb Sa : Addr} {led : List (Addr × Obj)} {q : Addr × Obj} (h : q ∈ offF I gb Sa led) : q ∈ led ∧ q.1 ≠ I ∧ q.1 ≠ gb ∧ q.1 ≠ Sa :=
  ⟨(List.mem_filter.mp h).1, of_decide_eq_true (List.mem_filter.mp h).2⟩
theorem offF_mem {I gb Sa : Addr} {led : List (Addr × Obj)} {q : Addr × Obj} (h : q ∈ led) (h1 : q.1 ≠ I) (h2 : q.1 ≠ gb) (h3 : q.1 ≠ Sa) : q ∈ offF I gb Sa led :=
  List.mem_filter.mpr ⟨h, decide_eq_true ⟨h1, h2, h3⟩⟩
theorem TabQ.off {I gb Sa : Addr} {led : List (Addr × Obj)} {ps : Array Value} {pos : Pos} {qual : PySem.Str} {h : Heap} {oI og oS : Obj} (hq : TabQ led ps pos qual) (hv : ∀ q ∈ led, h.get? q.1 = some q.2)
    (eI : h.get? I = some oI) (nI : NoStr oI) (eg : h.get? gb = some og) (ng : NoStr og) (eS : h.get? Sa = some oS) (nS : NoStr oS) : TabQ (offF I gb Sa led) ps pos qual := by
  rcases hq with hq | ⟨c', oc, vs, t, h1, hm, h3, h4, h5, h6⟩
  · exact .inl hq
  · have hc : h.get? c' = some oc := hv _ hm
    have ne : ∀ {a : Addr} {o : Obj}, h.get? a = some o → NoStr o → c' ≠ a := fun {a o} e n q => by
      subst q
      rw [hc] at e
      obtain rfl := Option.some.inj e
      exact n _ _ _ h5 h6
    exact .inr ⟨c', oc, vs, t, h1, offF_mem hm (ne eI nI) (ne eg ng) (ne eS nS), h3, h4, h5, h6⟩
theorem Tabs.off {I gb Sa : Addr} {led : List (Addr × Obj)} {p1 p2 : Array Value} {h : Heap} {oI og oS : Obj} (hT : Tabs led p1 p2) (hv : ∀ q ∈ led, h.get? q.1 = some q.2)
    (eI : h.get? I = some oI) (nI : NoStr oI) (eg : h.get? gb = some og) (ng : NoStr og) (eS : h.get? Sa = some oS) (nS : NoStr oS)
    (h52 : ∀ a : Nat, a = 52 ∨ a = 176 → a ≠ I ∧ a ≠ gb ∧ a ≠ Sa) : Tabs (offF I gb Sa led) p1 p2 := by
  obtain ⟨a1, a2, a3⟩ := h52 52 (.inl rfl)
  obtain ⟨b1, b2, b3⟩ := h52 176 (.inr rfl)
  exact ⟨offF_mem hT.m52 a1 a2 a3, offF_mem hT.m176 b1 b2 b3, hT.t1, hT.t2, hT.q1.off hv eI nI eg ng eS nS, hT.q2.off hv eI nI eg ng eS nS⟩

/-- what a generator over groups stands on, between two of its steps -/
structure GSt (base : Heap) (A₀ : Around) (fs : List Env) (gL0 : Heap) (C I gb d Sa : Addr) (keepL : List (Addr × Obj)) (it gbo : Obj) (acc : Array Value) (h : Heap) (gL : Heap) (m : PySem.Str → Option Value) (p1 p2 : Array Value) (r0 : List (Addr × Obj)) (c : Nat) : Prop where
  turn : KtsTurn (fs.filterMap (·.frame)) gL0 gL
  fr : Fr gL C h m
  news : News gL C h ((I, it) :: (gb, gbo) :: (d, dictOf [] 0) :: (Sa, lstO acc c) :: r0)
  below : Below A₀ base fs gL
  dicts : KtsDicts (fs.filterMap (·.frame)) gL
  tabs : Tabs r0 p1 p2
  keep : ∀ q ∈ keepL, q ∈ r0
  off : ∀ q ∈ r0, q.1 ≠ I ∧ q.1 ≠ gb ∧ q.1 ≠ Sa
def GPh (base : Heap) (A₀ : Around) (fs : List Env) (gL0 : Heap) (C I gb d Sa : Addr) (keepL : List (Addr × Obj)) (it gbo : Obj) (acc : Array Value) (h : Heap) : Prop :=
  ∃ gL m p1 p2 r0 c, GSt base A₀ fs gL0 C I gb d Sa keepL it gbo acc h gL m p1 p2 r0 c
/-- what does not change while the generator runs -/
structure GSetup (w : World) (base : Heap) (x : List Nat) (f : Addr) (os : List (Addr × Obj)) (vs : List Value) (ws : List (List Nat)) (k nl : Nat) (l I gb d Sa : Addr) (keepL : List (Addr × Obj)) : Prop where
  hL : LamSpec w base x f os
  hS : StrsAre vs (ws.map S)
  k0 : 0 < k
  k1 : k < ws.length
  len : ws.length ≤ 60
  g1 : ∀ j (h : j < ws.length), j < k → decide (ws[j].head? = x.head?) = true
  g2 : ∀ j (h : j < ws.length), k ≤ j → decide (ws[j].head? = x.head?) = false
  ne : ∀ z ∈ ws, z ≠ [] ∧ z.length ≤ 100
  os : ∀ q ∈ os, q ∈ keepL
  lm : (l, listOf vs.toArray nl) ∈ keepL
  kp : ∀ q ∈ keepL, q.1 ≠ 52 ∧ q.1 ≠ 176 ∧ q.1 ≠ I ∧ q.1 ≠ gb ∧ q.1 ≠ Sa
  nI : I ≠ 52 ∧ I ≠ 176
  ng : gb ≠ 52 ∧ gb ≠ 176
  nd : d ≠ 52 ∧ d ≠ 176
  nS : Sa ≠ 52 ∧ Sa ≠ 176
  e1 : gb ≠ I
  e2 : d ≠ I
  e3 : d ≠ gb
  e4 : Sa ≠ I
  e5 : Sa ≠ gb
  e6 : Sa ≠ d
section
variable {w : World} {base : Heap} {x : List Nat} {f : Addr} {os : List (Addr × Obj)} {vs : List Value} {ws : List (List Nat)} {k nl : Nat} {l I gb d Sa : Addr} {keepL : List (Addr × Obj)}
theorem GSetup.item (St : GSetup w base x f os vs ws k nl l I gb d Sa keepL) {j : Nat} (hj : j < ws.length) : ∃ z t, vs[j]? = some (.str (S z) t) ∧ ws[j]? = some z ∧ z ≠ [] ∧ z.length ≤ 100 ∧ decide (z.head? = x.head?) = decide (j < k) := by
  obtain ⟨t, ht⟩ := strs_item St.hS hj
  obtain ⟨h1, h2⟩ := St.ne _ (List.getElem_mem hj)
  refine ⟨ws[j], t, ht, List.getElem?_eq_getElem hj, h1, h2, ?_⟩
  by_cases hk : j < k
  · rw [St.g1 j hj hk, decide_eq_true hk]
  · rw [St.g2 j hj (Nat.le_of_not_lt hk), decide_eq_false hk]
theorem GSetup.end_ (St : GSetup w base x f os vs ws k nl l I gb d Sa keepL) : vs[ws.length]? = none := by
  have := StrsAre.length St.hS
  rw [List.length_map] at this
  exact List.getElem?_eq_none (by omega)
theorem GSetup.n52 (St : GSetup w base x f os vs ws k nl l I gb d Sa keepL) : ∀ a : Nat, a = 52 ∨ a = 176 → a ≠ I ∧ a ≠ gb ∧ a ≠ Sa := by
  rintro a (rfl | rfl)
  · exact ⟨St.nI.1.symm, St.ng.1.symm, St.nS.1.symm⟩
  · exact ⟨St.nI.2.symm, St.ng.2.symm, St.nS.2.symm⟩
end
theorem fr_store {g h h' : Heap} {C : Addr} {m m' : PySem.Str → Option Value} (F : Fr g C h m) (hn : h'.Ns C m') (hs : Heap.SameBut C h h') : Fr g C h' m' :=
  ⟨hn, fun b o e => hs.extBut b o (fun q => by rw [q, kts_self F] at e; cases e) (F.keep b o e), F.above⟩
theorem news_store {g h h' : Heap} {C : Addr} {led : List (Addr × Obj)} (N : News g C h led) (hs : Heap.SameBut C h h') : News g C h' led :=
  fun q hq => ⟨hs.extBut _ _ (N q hq).2.1 (N q hq).1, (N q hq).2⟩
end Mine
end

section
open PySem PySem.W PySem.Calls PyProof.Rows PySem.Spec
set_option Elab.async false
set_option maxRecDepth 100000
namespace Mine
section
variable {w : World} {base : Heap} {loose : List PySem.Str} {mean : ExcName → Option Value} {mg mb : PySem.Str → Option Value}
   {x : List Nat} {f : Addr} {os : List (Addr × Obj)} {vs : List Value} {ws : List (List Nat)} {k nl n : Nat} {l I gb d Sa C : Addr} {keepL : List (Addr × Obj)} {A₀ : Around} {fs : List Env} {gL0 : Heap} {cenv : Env} {dq un : Nat} {gd : Option (List Code)} {s : Shared} {K E : Value → Shared → Prop} {N : Shared → Prop} {acc : Array Value}
theorem off_cons {α : Type} {P : Addr × α → Prop} {q0 : Addr × α} {r : List (Addr × α)} (h0 : P q0) (h : ∀ q ∈ r, P q) : ∀ q ∈ q0 :: r, P q := fun q hq => by
  rcases List.mem_cons.mp hq with rfl | hq
  · exact h0
  · exact h q hq
theorem gst_back {g' h' : Heap} {m : PySem.Str → Option Value} {p1 p2 : Array Value} {r0 led5 : List (Addr × Obj)} {c : Nat} {it gbo : Obj} {A : Around} (St : GSetup w base x f os vs ws k nl l I gb d Sa keepL)
   (hkeep : ∀ q ∈ keepL, q ∈ r0) (G5 : Grd A base (cenv :: fs) g' led5 h') (hT5 : Tabs led5 p1 p2) (hsub : ∀ q ∈ ((I, it) :: (gb, gbo) :: (d, dictOf [] 0) :: (Sa, lstO acc c) :: r0), q.1 ≠ 52 → q.1 ≠ 176 → q ∈ led5)
   (nI : NoStr it) (ng : NoStr gbo)
   (hb : ∀ led', Grd A base (cenv :: fs) g' led' h' → ∃ h₀', KtsTurn (fs.filterMap (·.frame)) gL0 h₀' ∧ Fr h₀' C h' m ∧ News h₀' C h' led' ∧ Below A₀ base fs h₀' ∧ KtsDicts (fs.filterMap (·.frame)) h₀') :
   GPh base A₀ fs gL0 C I gb d Sa keepL it gbo acc h' := by
  have mI := hsub _ (.head _) St.nI.1 St.nI.2
  have mg' := hsub _ (.tail _ (.head _)) St.ng.1 St.ng.2
  have md := hsub _ (.tail _ (.tail _ (.head _))) St.nd.1 St.nd.2
  have mS := hsub _ (.tail _ (.tail _ (.tail _ (.head _)))) St.nS.1 St.nS.2
  obtain ⟨g6, T6, F6, N6, B6, D6⟩ := hb ((I, it) :: (gb, gbo) :: (d, dictOf [] 0) :: (Sa, lstO acc c) :: offF I gb Sa led5) (G5.sub fun q hq => by
    simp only [List.mem_cons] at hq
    rcases hq with rfl | rfl | rfl | rfl | hq
    · exact mI
    · exact mg'
    · exact md
    · exact mS
    · exact (offF_sub hq).1)
  refine ⟨g6, m, p1, p2, offF I gb Sa led5, c, T6, F6, N6, B6, D6, hT5.off (fun q hq => (G5.led q hq).1) (G5.led _ mI).1 nI (G5.led _ mg').1 ng (G5.led _ mS).1 (noStr_lst _ _) St.n52, fun q hq => ?_, fun q hq => (offF_sub hq).2⟩
  obtain ⟨h1, h2, h3, h4, h5⟩ := St.kp q hq
  exact offF_mem (hsub q (.tail _ (.tail _ (.tail _ (.tail _ (hkeep q hq))))) h1 h2) h3 h4 h5
set_option maxHeartbeats 2000000 in
/-- the first step of the generator: group 1 -/
theorem gen_turn1 (XB : (KF w).In base) (TB : Top PySem.W.topProg loose mean mg mb base) (ih : InnerSpec w base n) (St : GSetup w base x f os vs ws k nl l I gb d Sa keepL) (J : GEnv cenv C)
   {px p1 p2 p3 p4 p5 p6 p7 p8 : Pos} {t1 t2 : Tok} (hd : dq + 4 * n < 900) (hm : msr (ws.take k) < n) (hsrt : Srt (ws.take k))
   (hs : GPh base A₀ fs gL0 C I gb d Sa keepL (iterO l 0) (gbO I f d (.int 0 t1) .none .none (.bool false) (.bool false) (.bool false) (.int 0 t2) .none) acc s.heap)
   (kk : ∀ h' gens' tk X W t z tz c1 c2, vs[k]? = some (.str (S z) tz) → ws[k]? = some z → GPh base A₀ fs gL0 C I gb d Sa keepL (iterO l (k + 1)) (gbO I f d (.int 1 c1) (.bool false) (.str (S z) tz) (.bool true) (.bool true) (.bool true) (.int 1 c2) (.bool true)) acc h' →
     (∀ i, i < s.gens.size → gens'[i]? = s.gens[i]?) → GUp s.gens gens' → Cx (ws.take k) X W → K (.str (S X) t) { s with heap := h', gens := gens', toks := tk }) :
   wpAny (model PR w) (At dq (some (cenv :: fs)) gd un) (pyNext (.ref gb)) (fun r s1 => match r with
     | none => N s1
     | some v => letOwnedTupleGo (.Name (PySem.Str.ofString "group") px) (.ref gb) v = pure () ∧ wpAny (model PR w) (At dq (some (cenv :: fs)) gd un) (storeName cenv (PySem.Str.ofString "group") v) (fun _ s2 => wpAny (model PR w) (At dq (some (cenv :: fs)) gd un) (eval (eltC p1 p2 p3 p4 p5 p6 p7 p8) cenv) K (fun _ _ => False) s2) (fun _ _ => False) s1) (fun _ _ => False) s := by
  obtain ⟨gL, m, q1, q2, r0, c, G0⟩ := hs
  have hck : cenv.scope.kind ≠ .module := by rw [J.fk]; decide
  obtain ⟨gc, G, back⟩ := ground_of (A := At dq (some (cenv :: fs)) gd un) G0.below G0.fr G0.news G0.dicts G0.turn rfl J.frm hck
  have hk0 := St.k0
  have hk1 := St.k1
  have hlen := St.len
  have offI : ∀ q ∈ (Sa, lstO acc c) :: r0, q.1 ≠ I := off_cons St.e4 fun q hq => (G0.off q hq).1
  have offg : ∀ q ∈ (Sa, lstO acc c) :: r0, q.1 ≠ gb := off_cons St.e5 fun q hq => (G0.off q hq).2.1
  have hos : ∀ q ∈ os, q ∈ (Sa, lstO acc c) :: r0 := fun q hq => .tail _ (G0.keep q (St.os q hq))
  have hl : (l, listOf vs.toArray nl) ∈ (Sa, lstO acc c) :: r0 := .tail _ (G0.keep _ St.lm)
  obtain ⟨z, tz, hz1, hz2, hz3, hz4, hz5⟩ := St.item (j := 0) (by omega)
  rw [decide_eq_true hk0] at hz5
  refine gb_first XB TB St.hL (by omega) hz3 hz4 hz5 hz1 G hos hl offI offg St.e1 St.e2 St.e3 St.e1.symm fun h1 tk1 T gr dd t c1 c2 c3 G1 hlt h2 h3 => ?_
  obtain ⟨D0, -, iI, ig, id_, iA⟩ := hlt
  obtain ⟨g2, T2, F2, N2, B2, D2⟩ := back gc h1 _ KtsTurn.refl G1
  refine ⟨rfl, wpAny_storeName_local J.grp (J.loc.symm ▸ F2.ns) (fun h3 hn3 hs3 => ?_) (by rw [J.fk]; rfl)⟩
  have hs3 : Heap.SameBut C h1 h3 := J.loc ▸ hs3
  have hn3 := J.loc ▸ hn3
  have F3 := fr_store F2 hn3 hs3
  have N3 := news_store N2 hs3
  refine elt_group XB TB J (fun b o e => F3.keep b o (B2.stays b o e)) F3.ns (if_pos rfl) (N3 _ (.head _)).1 fun tk4 => ?_
  obtain ⟨g4, G4, back4⟩ := ground_of (s := { s with heap := h3, toks := tk4 }) (A := At dq (some (cenv :: fs)) gd un) B2 F3 N3 D2 T2 rfl J.frm hck
  have hiI : ∀ a : Addr, dd ≤ a → a ≠ I ∧ a ≠ gb ∧ a ≠ d := fun a ha => ⟨Nat.ne_of_gt (Nat.lt_of_lt_of_le iI ha), Nat.ne_of_gt (Nat.lt_of_lt_of_le ig ha), Nat.ne_of_gt (Nat.lt_of_lt_of_le id_ ha)⟩
  refine grp_list1 (lo := 0) (hi := k) (r := (Sa, lstO acc c) :: r0) (ws := ws) (z0 := z) XB TB St.hL (by omega) (by omega) hk0 hz2 (fun j _ hj => ?_) ?_ (G4.sub fun q hq => .tail _ hq) hos hl offI offg St.e1 St.e2 St.e3 St.e1.symm (hiI gr (Nat.le_of_lt h2)).1 (hiI gr (Nat.le_of_lt h2)).2.1 (hiI dd (Nat.le_refl _)).1 (hiI dd (Nat.le_refl _)).2.1
    fun g5 h5 tk5 L0 acc5 c5 z5 t5 T5 G5 hlt5 hacc e1 e2 => ?_
  · obtain ⟨z, t, a1, a2, a3, a4, a5⟩ := St.item (j := j) (by omega)
    exact ⟨z, t, a1, a2, a3, a4, by rw [a5, decide_eq_true hj]⟩
  · obtain ⟨z, t, a1, a2, a3, a4, a5⟩ := St.item (j := k) hk1
    exact ⟨z, t, a1, a2, a3, a4, by rw [a5, decide_eq_false (Nat.lt_irrefl _)]⟩
  intro tk' t'
  refine ⟨fun b o e => G5.keep b o (G5.below.stays b o e), ?_⟩
  have h0k : (ws.take k).drop 0 = ws.take k := List.drop_zero
  rw [h0k] at hacc
  have hL0 : (L0, listOf acc5.toList.toArray c5) ∈ ((gr, grO gb dd (.int 1 c3) (.bool true)) :: (dd, dictOf [] 0) :: (I, iterO l (k + 1)) :: (gb, gbO I f d (.int 1 c1) (.bool false) (.str (S z5) t5) (.bool true) (.bool true) (.bool true) (.int 1 c2) (.bool true)) :: (d, dictOf [] 0) :: (L0, lstO acc5 c5) :: (Sa, lstO acc c) :: r0) := by
    rw [Array.toArray_toList]
    exact .tail _ (.tail _ (.tail _ (.tail _ (.tail _ (.head _)))))
  refine ih dq un (cenv :: fs) gd _ K _ g5 _ L0 acc5.toList c5 (ws.take k) [] t' q1 q2 hm hd hsrt (fun q => ?_) (fun _ hq => ?_) (Nat.zero_le _) G5 (G0.tabs.sub ?_ ?_ fun q hq _ _ => ?_) hL0 hacc fun g6 led6 h6 gens6 tk6 t6 p1' p2' X W T6 G6 hT6 hsub6 hg1 hg2 hC => ?_
  · have := congrArg List.length q
    rw [List.length_take, List.length_nil] at this
    omega
  · exact (St.ne _ (List.mem_of_mem_take hq)).1 rfl
  · exact .tail _ (.tail _ (.tail _ (.tail _ (.tail _ (.tail _ (.tail _ G0.tabs.m52))))))
  · exact .tail _ (.tail _ (.tail _ (.tail _ (.tail _ (.tail _ (.tail _ G0.tabs.m176))))))
  · exact .tail _ (.tail _ (.tail _ (.tail _ (.tail _ (.tail _ (.tail _ hq))))))
  rw [show ([] ++ X ++ cl []) = X by simp [cl]]
  refine kk h6 gens6 tk6 X W t6 z5 t5 c1 c2 e1 e2 ?_ hg1 hg2 hC
  refine gst_back (c := c) (r0 := r0) St G0.keep G6 hT6 (fun q hq => hsub6 q ?_) (noStr_iterO _ _) (noStr_gb _ _ _ _ _ _ _ _ _ _ _) fun led' G' => back4 g6 h6 led' (T5.trans T6) G'
  simp only [List.mem_cons] at hq ⊢
  rcases hq with rfl | rfl | rfl | rfl | hq <;> simp [*]
end
end Mine
end

section
open PySem PySem.W PySem.Calls PyProof.Rows PySem.Spec
set_option Elab.async false
set_option maxRecDepth 100000
namespace Mine
section
variable {w : World} {base : Heap} {loose : List PySem.Str} {mean : ExcName → Option Value} {mg mb : PySem.Str → Option Value}
   {x : List Nat} {f : Addr} {os : List (Addr × Obj)} {vs : List Value} {ws : List (List Nat)} {k nl n : Nat} {l I gb d Sa C : Addr} {keepL : List (Addr × Obj)} {A₀ : Around} {fs : List Env} {gL0 : Heap} {cenv : Env} {dq un : Nat} {gd : Option (List Code)} {s : Shared} {K E : Value → Shared → Prop} {N : Shared → Prop} {acc : Array Value}
set_option maxHeartbeats 2000000 in
/-- the second step of the generator: group 2 -/
theorem gen_turn2 (XB : (KF w).In base) (TB : Top PySem.W.topProg loose mean mg mb base) (ih : InnerSpec w base n) (St : GSetup w base x f os vs ws k nl l I gb d Sa keepL) (J : GEnv cenv C)
   {px p1 p2 p3 p4 p5 p6 p7 p8 : Pos} {z : List Nat} {tz c1 c2 : Tok} (hd : dq + 4 * n < 900) (hm : msr (ws.drop k) < n) (hsrt : Srt (ws.drop k))
   (e2 : ws[k]? = some z)
   (hs : GPh base A₀ fs gL0 C I gb d Sa keepL (iterO l (k + 1)) (gbO I f d (.int 1 c1) (.bool false) (.str (S z) tz) (.bool true) (.bool true) (.bool true) (.int 1 c2) (.bool true)) acc s.heap)
   (kk : ∀ h' gens' tk X W t c1 c2, GPh base A₀ fs gL0 C I gb d Sa keepL (iterX ws.length) (gbO I f d (.int 2 c1) .none .none (.bool false) (.bool false) (.bool true) (.int 2 c2) (.bool false)) acc h' →
     (∀ i, i < s.gens.size → gens'[i]? = s.gens[i]?) → GUp s.gens gens' → Cx (ws.drop k) X W → K (.str (S X) t) { s with heap := h', gens := gens', toks := tk }) :
   wpAny (model PR w) (At dq (some (cenv :: fs)) gd un) (pyNext (.ref gb)) (fun r s1 => match r with
     | none => N s1
     | some v => letOwnedTupleGo (.Name (PySem.Str.ofString "group") px) (.ref gb) v = pure () ∧ wpAny (model PR w) (At dq (some (cenv :: fs)) gd un) (storeName cenv (PySem.Str.ofString "group") v) (fun _ s2 => wpAny (model PR w) (At dq (some (cenv :: fs)) gd un) (eval (eltC p1 p2 p3 p4 p5 p6 p7 p8) cenv) K (fun _ _ => False) s2) (fun _ _ => False) s1) (fun _ _ => False) s := by
  obtain ⟨gL, m, q1, q2, r0, c, G0⟩ := hs
  have hck : cenv.scope.kind ≠ .module := by rw [J.fk]; decide
  obtain ⟨gc, G, back⟩ := ground_of (A := At dq (some (cenv :: fs)) gd un) G0.below G0.fr G0.news G0.dicts G0.turn rfl J.frm hck
  have hk0 := St.k0
  have hk1 := St.k1
  have hlen := St.len
  have offI : ∀ q ∈ (Sa, lstO acc c) :: r0, q.1 ≠ I := off_cons St.e4 fun q hq => (G0.off q hq).1
  have offg : ∀ q ∈ (Sa, lstO acc c) :: r0, q.1 ≠ gb := off_cons St.e5 fun q hq => (G0.off q hq).2.1
  have hos : ∀ q ∈ os, q ∈ (Sa, lstO acc c) :: r0 := fun q hq => .tail _ (G0.keep q (St.os q hq))
  have hl : (l, listOf vs.toArray nl) ∈ (Sa, lstO acc c) :: r0 := .tail _ (G0.keep _ St.lm)
  refine gb_switch (gr := gb) (dd := gb) (l := l) (x := x) (vs := vs) (n := nl) (os := os) (i := k + 1) (c3 := c1) XB TB (by omega) G offI offg St.e1 St.e2 St.e3 St.e1.symm fun h1 tk1 T gr dd c1 c2 c3 G1 hlt h2 h3 => ?_
  obtain ⟨iI, ig, id_, iA⟩ := hlt
  obtain ⟨g2, T2, F2, N2, B2, D2⟩ := back gc h1 _ KtsTurn.refl G1
  refine ⟨rfl, wpAny_storeName_local J.grp (J.loc.symm ▸ F2.ns) (fun h3 hn3 hs3 => ?_) (by rw [J.fk]; rfl)⟩
  have hs3 : Heap.SameBut C h1 h3 := J.loc ▸ hs3
  have hn3 := J.loc ▸ hn3
  have F3 := fr_store F2 hn3 hs3
  have N3 := news_store N2 hs3
  refine elt_group XB TB J (fun b o e => F3.keep b o (B2.stays b o e)) F3.ns (if_pos rfl) (N3 _ (.head _)).1 fun tk4 => ?_
  obtain ⟨g4, G4, back4⟩ := ground_of (s := { s with heap := h3, toks := tk4 }) (A := At dq (some (cenv :: fs)) gd un) B2 F3 N3 D2 T2 rfl J.frm hck
  have hiI : ∀ a : Addr, dd ≤ a → a ≠ I ∧ a ≠ gb ∧ a ≠ d := fun a ha => ⟨Nat.ne_of_gt (Nat.lt_of_lt_of_le iI ha), Nat.ne_of_gt (Nat.lt_of_lt_of_le ig ha), Nat.ne_of_gt (Nat.lt_of_lt_of_le id_ ha)⟩
  refine grp_list2 (lo := k) (hi := ws.length) (r := (Sa, lstO acc c) :: r0) (ws := ws) (z0 := z) XB TB St.hL (by omega) (by omega) hk1 e2 (fun j hj1 hj => ?_) St.end_ (G4.sub fun q hq => .tail _ hq) hos hl offI offg St.e1 St.e2 St.e3 St.e1.symm (hiI gr (Nat.le_of_lt h2)).1 (hiI gr (Nat.le_of_lt h2)).2.1 (hiI dd (Nat.le_refl _)).1 (hiI dd (Nat.le_refl _)).2.1
    fun g5 h5 tk5 L0 acc5 c5 T5 G5 hlt5 hacc => ?_
  · obtain ⟨z, t, a1, a2, a3, a4, a5⟩ := St.item (j := j) hj
    exact ⟨z, t, a1, a2, a3, a4, by rw [a5, decide_eq_false (Nat.not_lt.mpr hj1)]⟩
  intro tk' t'
  refine ⟨fun b o e => G5.keep b o (G5.below.stays b o e), ?_⟩
  have h0k : (ws.take ws.length).drop k = ws.drop k := by rw [List.take_length]
  rw [h0k] at hacc
  have hL0 : (L0, listOf acc5.toList.toArray c5) ∈ ((gr, grO gb dd (.int 2 c3) (.bool false)) :: (dd, dictOf [] 0) :: (I, iterX ws.length) :: (gb, gbO I f d (.int 2 c1) .none .none (.bool false) (.bool false) (.bool true) (.int 2 c2) (.bool false)) :: (d, dictOf [] 0) :: (L0, lstO acc5 c5) :: (Sa, lstO acc c) :: r0) := by
    rw [Array.toArray_toList]
    exact .tail _ (.tail _ (.tail _ (.tail _ (.tail _ (.head _)))))
  refine ih dq un (cenv :: fs) gd _ K _ g5 _ L0 acc5.toList c5 (ws.drop k) [] t' q1 q2 hm hd hsrt (fun q => ?_) (fun _ hq => ?_) (Nat.zero_le _) G5 (G0.tabs.sub ?_ ?_ fun q hq _ _ => ?_) hL0 hacc fun g6 led6 h6 gens6 tk6 t6 p1' p2' X W T6 G6 hT6 hsub6 hg1 hg2 hC => ?_
  · have := congrArg List.length q
    rw [List.length_drop, List.length_nil] at this
    omega
  · exact (St.ne _ (List.mem_of_mem_drop hq)).1 rfl
  · exact .tail _ (.tail _ (.tail _ (.tail _ (.tail _ (.tail _ (.tail _ G0.tabs.m52))))))
  · exact .tail _ (.tail _ (.tail _ (.tail _ (.tail _ (.tail _ (.tail _ G0.tabs.m176))))))
  · exact .tail _ (.tail _ (.tail _ (.tail _ (.tail _ (.tail _ (.tail _ hq))))))
  rw [show ([] ++ X ++ cl []) = X by simp [cl]]
  refine kk h6 gens6 tk6 X W t6 c1 c2 ?_ hg1 hg2 hC
  refine gst_back (c := c) (r0 := r0) St G0.keep G6 hT6 (fun q hq => hsub6 q ?_) (noStr_iterX _) (noStr_gb _ _ _ _ _ _ _ _ _ _ _) fun led' G' => back4 g6 h6 led' (T5.trans T6) G'
  simp only [List.mem_cons] at hq ⊢
  rcases hq with rfl | rfl | rfl | rfl | hq <;> simp [*]
/-- the third step: no more groups -/
theorem gen_turn3 (XB : (KF w).In base) (TB : Top PySem.W.topProg loose mean mg mb base) (St : GSetup w base x f os vs ws k nl l I gb d Sa keepL) (J : GEnv cenv C) {c1 c2 : Tok} {Q : Option Value → Shared → Prop} {E : Value → Shared → Prop} (hd : dq < 980)
   (hs : GPh base A₀ fs gL0 C I gb d Sa keepL (iterX ws.length) (gbO I f d (.int 2 c1) .none .none (.bool false) (.bool false) (.bool true) (.int 2 c2) (.bool false)) acc s.heap)
   (kk : ∀ h' tk c1 c2, GPh base A₀ fs gL0 C I gb d Sa keepL (iterX ws.length) (gbO I f d (.int 0 c1) .none .none (.bool false) (.bool false) (.bool true) (.int 2 c2) (.bool false)) acc h' → Q none { s with heap := h', toks := tk }) :
   wpAny (model PR w) (At dq (some (cenv :: fs)) gd un) (pyNext (.ref gb)) Q E s := by
  obtain ⟨gL, m, q1, q2, r0, c, G0⟩ := hs
  have hck : cenv.scope.kind ≠ .module := by rw [J.fk]; decide
  obtain ⟨gc, G, back⟩ := ground_of (A := At dq (some (cenv :: fs)) gd un) G0.below G0.fr G0.news G0.dicts G0.turn rfl J.frm hck
  have offI : ∀ q ∈ (Sa, lstO acc c) :: r0, q.1 ≠ I := off_cons St.e4 fun q hq => (G0.off q hq).1
  have offg : ∀ q ∈ (Sa, lstO acc c) :: r0, q.1 ≠ gb := off_cons St.e5 fun q hq => (G0.off q hq).2.1
  refine gb_end (gr := gb) (dd := gb) (l := l) (x := x) (z := x) (t := c1) (c3 := c1) (vs := vs) (n := nl) (os := os) XB TB hd G offI offg St.e1 St.e2 St.e3 St.e1.symm fun g' h1 tk1 c1 T1 G1 => ?_
  obtain ⟨g2, T2, F2, N2, B2, D2⟩ := back g' h1 _ T1 G1
  exact kk h1 tk1 c1 c2 ⟨g2, m, q1, q2, r0, c, T2, F2, N2, B2, D2, G0.tabs, G0.keep, G0.off⟩
end
end Mine
end

section
open PySem PySem.W PySem.Calls PyProof.Rows PySem.Spec
set_option Elab.async false
set_option maxRecDepth 100000
namespace Mine
/-- what stays of a state while generator number gi runs -/
structure SF (s0 : Shared) (gi : Nat) (s : Shared) : Prop where
  dr : s.drawn = s0.drawn
  os : s.os = s0.os
  lt : gi < s.gens.size
  old : ∀ i, i < gi → s.gens[i]? = s0.gens[i]?
  bare : ∀ i x, gi < i → s.gens[i]? = some x → x.bare = true
theorem SF.setGen {s0 s : Shared} {gi : Nat} (h : SF s0 gi s) (g : GenState) : SF s0 gi (s.setGen gi g) :=
  ⟨h.dr, h.os, by simp only [Shared.setGen, Array.size_setIfInBounds]; exact h.lt, fun i hi => by simp only [Shared.setGen]; rw [Array.getElem?_setIfInBounds_ne (Nat.ne_of_gt hi)]; exact h.old i hi,
    fun i x hi hx => by simp only [Shared.setGen] at hx; rw [Array.getElem?_setIfInBounds_ne (Nat.ne_of_lt hi)] at hx; exact h.bare i x hi hx⟩
theorem SF.step {s0 s : Shared} {gi : Nat} {h' : Heap} {gens' : Array GenState} {tk : Nat} (h : SF s0 gi s) (h1 : ∀ i, i < s.gens.size → gens'[i]? = s.gens[i]?) (h2 : GUp s.gens gens') : SF s0 gi { s with heap := h', gens := gens', toks := tk } :=
  ⟨h.dr, h.os, Nat.lt_of_lt_of_le h.lt h2.1, fun i hi => (h1 i (Nat.lt_trans hi h.lt)).trans (h.old i hi), fun i x hi hx => by
    have hx : gens'[i]? = some x := hx
    by_cases hb : i < s.gens.size
    · rw [h1 i hb] at hx; exact h.bare i x hi hx
    · exact h2.2 i x (Nat.le_of_not_lt hb) hx⟩
theorem SF.heap {s0 s : Shared} {gi : Nat} {h' : Heap} {tk : Nat} (h : SF s0 gi s) : SF s0 gi { s with heap := h', toks := tk } := ⟨h.dr, h.os, h.lt, h.old, h.bare⟩
theorem SF.self {s0 s : Shared} {gi : Nat} {x : GenState} (h : SF s0 gi s) : (s.setGen gi x).gens[gi]? = some x := by
  simp only [Shared.setGen]
  rw [Array.getElem?_setIfInBounds, if_pos rfl, if_pos h.lt]

section
variable {w : World} {base : Heap} {A₀ : Around} {fs : List Env} {gL0 : Heap} {x : List Nat} {f : Addr} {os : List (Addr × Obj)} {vs : List Value} {ws : List (List Nat)} {k nl n : Nat} {l I gb d Sa C : Addr} {keepL : List (Addr × Obj)}
theorem GPh.keeps {it gbo : Obj} {acc : Array Value} {h h' : Heap} (x : GPh base A₀ fs gL0 C I gb d Sa keepL it gbo acc h) (hk : ∀ b o, h.get? b = some o → h'.get? b = some o) : GPh base A₀ fs gL0 C I gb d Sa keepL it gbo acc h' := by
  obtain ⟨gL, m, p1, p2, r0, c, G⟩ := x
  exact ⟨gL, m, p1, p2, r0, c, G.turn, G.fr.keeps hk, news_keeps G.news hk, G.below, G.dicts, G.tabs, G.keep, G.off⟩
theorem GPh.list {it gbo : Obj} {acc : Array Value} {h : Heap} (x : GPh base A₀ fs gL0 C I gb d Sa keepL it gbo acc h) : ∃ c, h.get? Sa = some (lstO acc c) := by
  obtain ⟨gL, m, p1, p2, r0, c, G⟩ := x
  exact ⟨c, (G.news _ (.tail _ (.tail _ (.tail _ (.head _))))).1⟩
theorem GPh.kept {it gbo : Obj} {acc : Array Value} {h : Heap} {q : Addr × Obj} (x : GPh base A₀ fs gL0 C I gb d Sa keepL it gbo acc h) (hq : q ∈ keepL) : h.get? q.1 = some q.2 := by
  obtain ⟨gL, m, p1, p2, r0, c, G⟩ := x
  exact (G.news _ (.tail _ (.tail _ (.tail _ (.tail _ (G.keep q hq)))))).1
theorem GPh.stays {it gbo : Obj} {acc : Array Value} {h : Heap} (x : GPh base A₀ fs gL0 C I gb d Sa keepL it gbo acc h) : base.StaysIn h := by
  obtain ⟨gL, m, p1, p2, r0, c, G⟩ := x
  exact fun b o e => G.fr.keep b o (G.below.stays b o e)
/-- the collecting list is changed -/
theorem GPh.set {it gbo : Obj} {acc acc' : Array Value} {h h' : Heap} {c' : Nat} (e4 : Sa ≠ I) (e5 : Sa ≠ gb) (e6 : Sa ≠ d) (x : GPh base A₀ fs gL0 C I gb d Sa keepL it gbo acc h) (hS : h'.get? Sa = some (lstO acc' c')) (hs : Heap.SameBut Sa h h') : GPh base A₀ fs gL0 C I gb d Sa keepL it gbo acc' h' := by
  obtain ⟨gL, m, p1, p2, r0, c, G⟩ := x
  have nS := G.news _ (.tail _ (.tail _ (.tail _ (.head _))))
  have k' : ∀ q ∈ ((I, it) :: (gb, gbo) :: (d, dictOf [] 0) :: (Sa, lstO acc c) :: r0), q.1 ≠ Sa → h'.get? q.1 = some q.2 := fun q hq hne => hs.extBut _ _ hne (G.news q hq).1
  refine ⟨gL, m, p1, p2, r0, c', G.turn, G.fr.change hs nS.2.1 nS.2.2, fun q hq => ?_, G.below, G.dicts, G.tabs, G.keep, G.off⟩
  simp only [List.mem_cons] at hq
  rcases hq with rfl | rfl | rfl | rfl | hq
  · exact ⟨k' _ (.head _) e4.symm, (G.news _ (.head _)).2⟩
  · exact ⟨k' _ (.tail _ (.head _)) e5.symm, (G.news _ (.tail _ (.head _))).2⟩
  · exact ⟨k' _ (.tail _ (.tail _ (.head _))) e6.symm, (G.news _ (.tail _ (.tail _ (.head _)))).2⟩
  · exact ⟨hS, nS.2⟩
  · exact ⟨k' _ (.tail _ (.tail _ (.tail _ (.tail _ hq)))) (G.off q hq).2.2, (G.news _ (.tail _ (.tail _ (.tail _ (.tail _ hq))))).2⟩
end
end Mine
end

section
open PySem PySem.W PySem.Calls PyProof.Rows PySem.Spec
set_option Elab.async false
set_option maxRecDepth 100000
namespace Mine
section
variable {w : World} {base : Heap} {loose : List PySem.Str} {mean : ExcName → Option Value} {mg mb : PySem.Str → Option Value}
   {x : List Nat} {f : Addr} {os : List (Addr × Obj)} {vs : List Value} {ws : List (List Nat)} {k nl n gi : Nat} {l I gb d Sa C : Addr} {keepL : List (Addr × Obj)} {A₀ : Around} {fs : List Env} {gL0 : Heap} {cenv : Env} {dj un : Nat} {gd : Option (List Code)} {s s0 : Shared}
   {iter : Expr} {px p1 p2 p3 p4 p5 p6 p7 p8 pos : Pos} {scope : Scope}
/-- the phases -/
def Res0 (base : Heap) (A₀ : Around) (fs : List Env) (gL0 : Heap) (s0 : Shared) (gi : Nat) (C I gb d Sa : Addr) (keepL : List (Addr × Obj)) (f l : Addr) (s : Shared) : Prop :=
  SF s0 gi s ∧ ∃ t1 t2, GPh base A₀ fs gL0 C I gb d Sa keepL (iterO l 0) (gbO I f d (.int 0 t1) .none .none (.bool false) (.bool false) (.bool false) (.int 0 t2) .none) #[] s.heap
def Ph1 (base : Heap) (A₀ : Around) (fs : List Env) (gL0 : Heap) (s0 : Shared) (gi : Nat) (C I gb d Sa : Addr) (keepL : List (Addr × Obj)) (f l : Addr) (ws : List (List Nat)) (k : Nat) (acc : Array Value) (s : Shared) : Prop :=
  SF s0 gi s ∧ ∃ z tz c1 c2, ws[k]? = some z ∧ GPh base A₀ fs gL0 C I gb d Sa keepL (iterO l (k + 1)) (gbO I f d (.int 1 c1) (.bool false) (.str (S z) tz) (.bool true) (.bool true) (.bool true) (.int 1 c2) (.bool true)) acc s.heap
def Ph2 (base : Heap) (A₀ : Around) (fs : List Env) (gL0 : Heap) (s0 : Shared) (gi : Nat) (C I gb d Sa : Addr) (keepL : List (Addr × Obj)) (f : Addr) (ws : List (List Nat)) (acc : Array Value) (s : Shared) : Prop :=
  SF s0 gi s ∧ ∃ c1 c2, GPh base A₀ fs gL0 C I gb d Sa keepL (iterX ws.length) (gbO I f d (.int 2 c1) .none .none (.bool false) (.bool false) (.bool true) (.int 2 c2) (.bool false)) acc s.heap
def Ph3 (base : Heap) (A₀ : Around) (fs : List Env) (gL0 : Heap) (s0 : Shared) (gi : Nat) (C I gb d Sa : Addr) (keepL : List (Addr × Obj)) (f : Addr) (ws : List (List Nat)) (acc : Array Value) (s : Shared) : Prop :=
  SF s0 gi s ∧ ∃ c1 c2, GPh base A₀ fs gL0 C I gb d Sa keepL (iterX ws.length) (gbO I f d (.int 0 c1) .none .none (.bool false) (.bool false) (.bool true) (.int 2 c2) (.bool false)) acc s.heap
def Yp (base : Heap) (A₀ : Around) (fs : List Env) (gL0 : Heap) (s0 : Shared) (gi : Nat) (C I gb d Sa : Addr) (keepL : List (Addr × Obj)) (f l : Addr) (ws : List (List Nat)) (k : Nat) : Protocol := fun m _ v s kap =>
  (m = 1 ∧ (∃ X1 W1 t1, v = .str (S X1) t1 ∧ Cx (ws.take k) X1 W1 ∧ Ph1 base A₀ fs gL0 s0 gi C I gb d Sa keepL f l ws k #[] s ∧
      ∀ s'', Ph1 base A₀ fs gL0 s0 gi C I gb d Sa keepL f l ws k #[.str (S X1) t1] s'' → kap (.send .none) s'')) ∨
  (m = 0 ∧ (∃ X1 W1 t1 X2 W2 t2, v = .str (S X2) t2 ∧ Cx (ws.take k) X1 W1 ∧ Cx (ws.drop k) X2 W2 ∧ Ph2 base A₀ fs gL0 s0 gi C I gb d Sa keepL f ws #[.str (S X1) t1] s ∧
      ∀ s'', Ph2 base A₀ fs gL0 s0 gi C I gb d Sa keepL f ws #[.str (S X1) t1, .str (S X2) t2] s'' → kap (.send .none) s''))
def Rp (base : Heap) (A₀ : Around) (fs : List Env) (gL0 : Heap) (s0 : Shared) (gi : Nat) (C I gb d Sa : Addr) (keepL : List (Addr × Obj)) (f l : Addr) (ws : List (List Nat)) (k : Nat) : Nat → Shared → Shared → Prop := fun n _ s₁ =>
  n = 0 ∧ ∃ X1 W1 t1 X2 W2 t2, Cx (ws.take k) X1 W1 ∧ Cx (ws.drop k) X2 W2 ∧ Ph3 base A₀ fs gL0 s0 gi C I gb d Sa keepL f ws #[.str (S X1) t1, .str (S X2) t2] s₁
abbrev Rg (base : Heap) (A₀ : Around) (fs : List Env) (gL0 : Heap) (s0 : Shared) (gi : Nat) (C I gb d Sa : Addr) (keepL : List (Addr × Obj)) (f l : Addr) (ws : List (List Nat)) (k : Nat) : GenEnd := fun n s₀ r s₁ => r = .ok .next ∧ Rp base A₀ fs gL0 s0 gi C I gb d Sa keepL f l ws k n s₀ s₁
theorem over_loop (I : Addr) {elt : Expr} : ∃ gd' un', (At dj (some fs) gd un).over (loopC elt iter (PySem.Str.ofString "group") px scope pos I cenv) [] = At (dj + 1) (some (cenv :: fs)) gd' un' := ⟨_, _, rfl⟩
theorem over_start (I : Addr) {elt : Expr} : ∃ gd' un', (At dj (some fs) gd un).over (startC elt iter (PySem.Str.ofString "group") px scope pos I cenv) [] = At (dj + 1) (some (cenv :: fs)) gd' un' := ⟨_, _, rfl⟩
theorem Yp_mono : ∀ m s₀ y s3 (k1 k2 : Resume → Shared → Prop), (∀ s'', k1 (.send .none) s'' → k2 (.send .none) s'') → Yp base A₀ fs gL0 s0 gi C I gb d Sa keepL f l ws k m s₀ y s3 k1 → Yp base A₀ fs gL0 s0 gi C I gb d Sa keepL f l ws k m s₀ y s3 k2 := by
  intro m s₀ y s3 k1 k2 hk h
  rcases h with ⟨h1, X1, W1, t1, h2, h3, h4, h5⟩ | ⟨h1, X1, W1, t1, X2, W2, t2, h2, h3, h4, h5, h6⟩
  · exact .inl ⟨h1, X1, W1, t1, h2, h3, h4, fun s'' hs => hk s'' (h5 s'' hs)⟩
  · exact .inr ⟨h1, X1, W1, t1, X2, W2, t2, h2, h3, h4, h5, fun s'' hs => hk s'' (h6 s'' hs)⟩
abbrev theElt (p1 p2 p3 p4 p5 p6 p7 p8 : Pos) : Expr := eltC p1 p2 p3 p4 p5 p6 p7 p8
/-- behind the second word -/
theorem seg2 (XB : (KF w).In base) (TB : Top PySem.W.topProg loose mean mg mb base) (St : GSetup w base x f os vs ws k nl l I gb d Sa keepL) (J : GEnv cenv C) (hd : dj + 1 < 980)
   {X1 X2 : List Nat} {W1 W2 : List (List Nat)} {t1 t2 : Tok} (hC1 : Cx (ws.take k) X1 W1) (hC2 : Cx (ws.drop k) X2 W2) (hs : Ph2 base A₀ fs gL0 s0 gi C I gb d Sa keepL f ws #[.str (S X1) t1, .str (S X2) t2] s) :
   Seg (model PR w) (At dj (some fs) gd un) (Rg base A₀ fs gL0 s0 gi C I gb d Sa keepL f l ws k) (Yp base A₀ fs gL0 s0 gi C I gb d Sa keepL f l ws k) 0 s (loopC (theElt p1 p2 p3 p4 p5 p6 p7 p8) iter (PySem.Str.ofString "group") px scope pos gb cenv) ((model PR w).den (loopC (theElt p1 p2 p3 p4 p5 p6 p7 p8) iter (PySem.Str.ofString "group") px scope pos gb cenv)) [] s := by
  obtain ⟨sf, c1, c2, G⟩ := hs
  refine seg_turn J.co ?_ Yp_mono
  obtain ⟨gd', un', e⟩ := over_loop (dj := dj) (fs := fs) (gd := gd) (un := un) (iter := iter) (px := px) (scope := scope) (pos := pos) (cenv := cenv) gb (elt := theElt p1 p2 p3 p4 p5 p6 p7 p8)
  rw [e]
  refine gen_turn3 XB TB St J hd G fun h' tk c1 c2 G' => ?_
  exact ⟨rfl, rfl, X1, W1, t1, X2, W2, t2, hC1, hC2, sf.heap, c1, c2, G'⟩
/-- behind the first word -/
theorem seg1 (XB : (KF w).In base) (TB : Top PySem.W.topProg loose mean mg mb base) (ih : InnerSpec w base n) (St : GSetup w base x f os vs ws k nl l I gb d Sa keepL) (J : GEnv cenv C) (hd : dj + 1 + 4 * n < 900) (hm : msr (ws.drop k) < n) (hsrt : Srt (ws.drop k))
   {X1 : List Nat} {W1 : List (List Nat)} {t1 : Tok} (hC1 : Cx (ws.take k) X1 W1) (hs : Ph1 base A₀ fs gL0 s0 gi C I gb d Sa keepL f l ws k #[.str (S X1) t1] s) :
   Seg (model PR w) (At dj (some fs) gd un) (Rg base A₀ fs gL0 s0 gi C I gb d Sa keepL f l ws k) (Yp base A₀ fs gL0 s0 gi C I gb d Sa keepL f l ws k) 1 s (loopC (theElt p1 p2 p3 p4 p5 p6 p7 p8) iter (PySem.Str.ofString "group") px scope pos gb cenv) ((model PR w).den (loopC (theElt p1 p2 p3 p4 p5 p6 p7 p8) iter (PySem.Str.ofString "group") px scope pos gb cenv)) [] s := by
  obtain ⟨sf, z, tz, c1, c2, e2, G⟩ := hs
  refine seg_turn J.co ?_ Yp_mono
  obtain ⟨gd', un', e⟩ := over_loop (dj := dj) (fs := fs) (gd := gd) (un := un) (iter := iter) (px := px) (scope := scope) (pos := pos) (cenv := cenv) gb (elt := theElt p1 p2 p3 p4 p5 p6 p7 p8)
  rw [e]
  refine gen_turn2 XB TB ih St J hd hm hsrt e2 G fun h' gens' tk X W t c1 c2 G' hg1 hg2 hC => ?_
  refine ⟨0, rfl, .inr ⟨rfl, X1, W1, t1, X, W, t, rfl, hC1, hC, ⟨sf.step hg1 hg2, c1, c2, G'⟩, fun s'' hs'' hr => ?_⟩⟩
  exact seg2 XB TB St J (by omega) hC1 hC hs''
/-- from the start -/
theorem seg0 (XB : (KF w).In base) (TB : Top PySem.W.topProg loose mean mg mb base) (ih : InnerSpec w base n) (St : GSetup w base x f os vs ws k nl l I gb d Sa keepL) (J : GEnv cenv C) (hd : dj + 1 + 4 * n < 900) (hm1 : msr (ws.take k) < n) (hm2 : msr (ws.drop k) < n) (hs1 : Srt (ws.take k)) (hs2 : Srt (ws.drop k))
   (hs : Res0 base A₀ fs gL0 s0 gi C I gb d Sa keepL f l s) :
   Seg (model PR w) (At dj (some fs) gd un) (Rg base A₀ fs gL0 s0 gi C I gb d Sa keepL f l ws k) (Yp base A₀ fs gL0 s0 gi C I gb d Sa keepL f l ws k) 2 s (startC (theElt p1 p2 p3 p4 p5 p6 p7 p8) iter (PySem.Str.ofString "group") px scope pos gb cenv) ((model PR w).den (startC (theElt p1 p2 p3 p4 p5 p6 p7 p8) iter (PySem.Str.ofString "group") px scope pos gb cenv)) [] s := by
  have go : ∀ s1 : Shared, Res0 base A₀ fs gL0 s0 gi C I gb d Sa keepL f l s1 → Seg (model PR w) (At dj (some fs) gd un) (Rg base A₀ fs gL0 s0 gi C I gb d Sa keepL f l ws k) (Yp base A₀ fs gL0 s0 gi C I gb d Sa keepL f l ws k) 2 s (loopC (theElt p1 p2 p3 p4 p5 p6 p7 p8) iter (PySem.Str.ofString "group") px scope pos gb cenv) ((model PR w).den (loopC (theElt p1 p2 p3 p4 p5 p6 p7 p8) iter (PySem.Str.ofString "group") px scope pos gb cenv)) [] s1 := by
    rintro s1 ⟨sf, t1, t2, G⟩
    refine seg_turn J.co ?_ Yp_mono
    obtain ⟨gd', un', e⟩ := over_loop (dj := dj) (fs := fs) (gd := gd) (un := un) (iter := iter) (px := px) (scope := scope) (pos := pos) (cenv := cenv) gb (elt := theElt p1 p2 p3 p4 p5 p6 p7 p8)
    rw [e]
    refine gen_turn1 XB TB ih St J hd hm1 hs1 G fun h' gens' tk X W t z tz c1 c2 e1 e2 G' hg1 hg2 hC => ?_
    refine ⟨1, rfl, .inl ⟨rfl, X, W, t, rfl, hC, ⟨sf.step hg1 hg2, z, tz, c1, c2, e2, G'⟩, fun s'' hs'' hr => ?_⟩⟩
    exact seg1 XB TB ih St J hd hm2 hs2 hC hs''
  refine seg_start (go s hs) ?_
  obtain ⟨gd', un', e⟩ := over_start (dj := dj) (fs := fs) (gd := gd) (un := un) (iter := iter) (px := px) (scope := scope) (pos := pos) (cenv := cenv) gb (elt := theElt p1 p2 p3 p4 p5 p6 p7 p8)
  rw [e]
  obtain ⟨sf, t1, t2, gL, m, q1, q2, r0, c, G0⟩ := hs
  have hck : cenv.scope.kind ≠ .module := by rw [J.fk]; decide
  obtain ⟨gc, G, -⟩ := ground_of (A := At (dj + 1) (some (cenv :: fs)) gd' un') G0.below G0.fr G0.news G0.dicts G0.turn rfl J.frm hck
  refine gb_iter XB TB (by omega) G (.tail _ (.head _)) (.tail _ (.tail _ (.head _))) fun h' tk hk => ⟨rfl, go _ ⟨sf.heap, t1, t2, ?_⟩⟩
  exact GPh.keeps ⟨gL, m, q1, q2, r0, c, G0⟩ hk
end
end Mine
end

section
open PySem PySem.W PySem.Calls PyProof.Rows PySem.Spec
set_option Elab.async false
set_option maxRecDepth 100000
namespace Mine
section
variable {w : World} {base : Heap} {loose : List PySem.Str} {mean : ExcName → Option Value} {mg mb : PySem.Str → Option Value}
   {x : List Nat} {f : Addr} {os : List (Addr × Obj)} {vs : List Value} {ws : List (List Nat)} {k nl n gi : Nat} {l I gb d C a : Addr} {oa : Obj} {keepL : List (Addr × Obj)} {A₀ : Around} {fs : List Env} {gL0 gL : Heap} {cenv : Env} {dj un : Nat} {gd : Option (List Code)} {s s0 : Shared} {m : PySem.Str → Option Value} {r0 : List (Addr × Obj)} {q1 q2 : Array Value}
   {iter : Expr} {px p1 p2 p3 p4 p5 p6 p7 p8 pos : Pos} {scope : Scope} {t1 t2 tq : Tok} {Q E : Value → Shared → Prop}
theorem join_two (X1 X2 : List Nat) : Txt.join (S [124]) [S X1, S X2] = S (X1 ++ [124] ++ X2) := by
  show S X1 ++ S [124] ++ S X2 = _
  rw [S_app, S_app]
theorem joinOk_two {X1 X2 : List Nat} (h1 : X1.length ≤ 5000) (h2 : X2.length ≤ 5000) : JoinOk (S [124]) [S X1, S X2] = true := by
  have e1 := S_len X1
  have e2 := S_len X2
  have e3 := S_len [124]
  simp only [JoinOk, List.foldl_toArray', List.foldl_cons, List.foldl_nil, e1, e2, e3, List.length_cons, List.length_nil]
  have : ¬ (0 + X1.length + (0 + 1) + X2.length + (0 + 1) > sizeLine) := by simp only [sizeLine]; omega
  simp only [Builtin.Str.tooLong, decide_eq_false this]
  rfl
theorem shared_of {s s0 : Shared} {tk : Nat} (h1 : s.drawn = s0.drawn) (h2 : s.os = s0.os) : ({ s with toks := tk } : Shared) = { s0 with heap := s.heap, gens := s.gens, toks := tk } := by
  obtain ⟨a, b, c, d, e⟩ := s
  obtain ⟨a', b', c', d', e'⟩ := s0
  simp only at h1 h2
  subst h1 h2
  rfl
/-- '|'.join over the generator -/
theorem gen_join2 (XB : (KF w).In base) (TB : Top PySem.W.topProg loose mean mg mb base) (ih : InnerSpec w base n) (St : GSetup w base x f os vs ws k nl l I gb d s.heap.objs.size keepL) (J : GEnv cenv C) (hd : dj + 1 + 4 * n < 900) (hm1 : msr (ws.take k) < n) (hm2 : msr (ws.drop k) < n) (hs1 : Srt (ws.take k)) (hs2 : Srt (ws.drop k))
   (hgo : ∀ h : Heap, h.get? a = some oa → h.IsGen a gi) (ha : (a, oa) ∈ keepL) (hgs : s.gens[gi]? = some (.fresh (startC (theElt p1 p2 p3 p4 p5 p6 p7 p8) iter (PySem.Str.ofString "group") px scope pos gb cenv))) (sf : SF s0 gi s)
   (T0 : KtsTurn (fs.filterMap (·.frame)) gL0 gL) (F : Fr gL C s.heap m) (N : News gL C s.heap ((I, iterO l 0) :: (gb, gbO I f d (.int 0 t1) .none .none (.bool false) (.bool false) (.bool false) (.int 0 t2) .none) :: (d, dictOf [] 0) :: r0)) (B : Below A₀ base fs gL) (D : KtsDicts (fs.filterMap (·.frame)) gL) (hT : Tabs r0 q1 q2) (hkp : ∀ q ∈ keepL, q ∈ r0) (hoff : ∀ q ∈ r0, q.1 ≠ I ∧ q.1 ≠ gb)
   (kk : ∀ h' gens' tk t X1 W1 X2 W2 gL' m' r' q1 q2, KtsTurn (fs.filterMap (·.frame)) gL0 gL' → Fr gL' C h' m' → News gL' C h' r' → Below A₀ base fs gL' → KtsDicts (fs.filterMap (·.frame)) gL' → Tabs r' q1 q2 → (∀ q ∈ keepL, q ∈ r') → SF s0 gi { s0 with heap := h', gens := gens', toks := tk } → (∀ y, gens'[gi]? = some y → y.bare = true) → Cx (ws.take k) X1 W1 → Cx (ws.drop k) X2 W2 → Q (.str (S (X1 ++ [124] ++ X2)) t) { s0 with heap := h', gens := gens', toks := tk }) :
   wpAny (model PR w) (At dj (some fs) gd un) (call (.builtin "str.join") [.str (S [124]) tq, .ref a]) Q E s := by
  have hoa : s.heap.get? a = some oa := (N _ (.tail _ (.tail _ (.tail _ (hkp _ ha))))).1
  have hroom : dj < recursionLimit := by simp only [recursionLimit]; omega
  refine gen_join (hgo _ hoa) (gen_collect (hgo _ hoa) fun h' c hk hS => ?_)
  generalize hSa : s.heap.objs.size = Sa at St hS ⊢
  have hlt : ∀ q ∈ ((I, iterO l 0) :: (gb, gbO I f d (.int 0 t1) .none .none (.bool false) (.bool false) (.bool false) (.int 0 t2) .none) :: (d, dictOf [] 0) :: r0), q.1 < Sa := fun q hq => by rw [← hSa]; exact Heap.lt_size (N q hq).1
  have N0 : News gL C h' ((I, iterO l 0) :: (gb, gbO I f d (.int 0 t1) .none .none (.bool false) (.bool false) (.bool false) (.int 0 t2) .none) :: (d, dictOf [] 0) :: (Sa, lstO #[] c) :: r0) := fun q hq => by
    have old : q ∈ ((I, iterO l 0) :: (gb, gbO I f d (.int 0 t1) .none .none (.bool false) (.bool false) (.bool false) (.int 0 t2) .none) :: (d, dictOf [] 0) :: r0) → h'.get? q.1 = some q.2 ∧ q.1 ≠ C ∧ gL.get? q.1 = none := fun hq => ⟨hk _ _ (N q hq).1, (N q hq).2⟩
    simp only [List.mem_cons] at hq
    rcases hq with rfl | rfl | rfl | rfl | hq
    · exact old (.head _)
    · exact old (.tail _ (.head _))
    · exact old (.tail _ (.tail _ (.head _)))
    · refine ⟨hS, ?_, ?_⟩
      · rw [← hSa]; exact Nat.ne_of_gt F.ns.lt
      · rw [← hSa]; exact Heap.get?_none_of_le (Nat.le_trans F.above (Nat.le_of_lt F.ns.lt))
    · exact old (.tail _ (.tail _ (.tail _ hq)))
  have G0 : GPh base A₀ fs gL0 C I gb d Sa keepL (iterO l 0) (gbO I f d (.int 0 t1) .none .none (.bool false) (.bool false) (.bool false) (.int 0 t2) .none) #[] h' :=
    ⟨gL, m, q1, q2, r0, c, T0, F.keeps hk, N0, B, D, hT, hkp, fun q hq => ⟨(hoff q hq).1, (hoff q hq).2, Nat.ne_of_lt (hlt q (.tail _ (.tail _ (.tail _ hq))))⟩⟩
  have hh : ∀ {A : Around}, A.handled = none → A.in1.in1.handled = none := fun h => h
  refine ext_step ?_
  refine wpAny_pyNext_genexpQ (P := Rp base A₀ fs gL0 s0 gi C I gb d Sa keepL f l ws k) (Y := Yp base A₀ fs gL0 s0 gi C I gb d Sa keepL f l ws k) (n := 2) rfl (TB.nolimit.keeps G0.stays) hroom (hgo _ (G0.kept ha)) hgs ⟨rfl, ?_⟩ (fun v s1 gs1 hb1 hv => ?_) (fun s1 hP => absurd hP.1 (by decide))
  · exact seg0 XB TB ih St J hd hm1 hm2 hs1 hs2 ⟨SF.setGen (SF.heap (h' := h') (tk := s.toks) sf) .running, t1, t2, G0⟩
  obtain ⟨-, X1, W1, u1, rfl, hC1, P1, hk1⟩ := hv.resolve_right (fun h => absurd h.1 (by decide))
  obtain ⟨sf1, z, tz, c1, c2, e2, G1⟩ := P1
  obtain ⟨cc, hS1⟩ := G1.list
  refine ⟨#[], cc, hS1, by simp [sizeLine], fun h2 c2' hS2 hsb2 hz2 => ?_⟩
  have G1' := G1.set St.e4 St.e5 St.e6 hS2 hsb2
  have sf1' := (sf1.setGen gs1).heap (h' := h2) (tk := s1.toks)
  refine ext_step ?_
  refine wpAny_pyNext_genexpQ (P := Rp base A₀ fs gL0 s0 gi C I gb d Sa keepL f l ws k) (Y := Yp base A₀ fs gL0 s0 gi C I gb d Sa keepL f l ws k) (n := 1) rfl (TB.nolimit.keeps G1'.stays) hroom (hgo _ (G1'.kept ha)) (sf1.self) (hk1 _ ⟨sf1'.setGen .running, z, tz, c1, c2, e2, G1'⟩) (fun v s2 gs2 hb2 hv => ?_) (fun s1 hP => absurd hP.1 (by decide))
  obtain ⟨-, X1, W1, u1, X2, W2, u2, rfl, hC1, hC2, P2, hk2⟩ := hv.resolve_left (fun h => absurd h.1 (by decide))
  obtain ⟨sf2, c1, c2, G2⟩ := P2
  obtain ⟨cc, hS2'⟩ := G2.list
  refine ⟨#[.str (S X1) u1], cc, hS2', by simp [sizeLine], fun h3 c3' hS3 hsb3 hz3 => ?_⟩
  have G2' := G2.set St.e4 St.e5 St.e6 hS3 hsb3
  have sf2' := (sf2.setGen gs2).heap (h' := h3) (tk := s2.toks)
  refine ext_step ?_
  refine wpAny_pyNext_genexpQ (P := Rp base A₀ fs gL0 s0 gi C I gb d Sa keepL f l ws k) (Y := Yp base A₀ fs gL0 s0 gi C I gb d Sa keepL f l ws k) (n := 0) rfl (TB.nolimit.keeps G2'.stays) hroom (hgo _ (G2'.kept ha)) (sf2.self) (hk2 _ ⟨sf2'.setGen .running, c1, c2, G2'⟩) (fun v s3 gs3 hb3 hv => ?_) (fun s3 hP h4 hk4 => ?_)
  · obtain ⟨-, X1, W1, u1, X2, W2, u2, -, -, -, ⟨sf9, c1, c2, G9⟩, hk3⟩ := hv.resolve_left (fun h => absurd h.1 (by decide))
    obtain ⟨cc, hS9⟩ := G9.list
    exact False.elim (hk3 { s3 with heap := s3.heap.update Sa (Obj.mapSeq fun _ => #[.str (S X1) u1, .str (S X2) u2]) } ⟨⟨sf9.dr, sf9.os, sf9.lt, sf9.old, sf9.bare⟩, c1, c2, G9.set St.e4 St.e5 St.e6 (Heap.get?_update_self (Obj.mapSeq fun _ => #[.str (S X1) u1, .str (S X2) u2]) hS9 rfl) (Heap.SameBut.update ..)⟩)
  obtain ⟨-, X1, W1, u1, X2, W2, u2, hC1, hC2, sf3, c1, c2, G3⟩ := hP
  have G4 := G3.keeps hk4
  obtain ⟨cc, hS4⟩ := G4.list
  refine ⟨rfl, #[.str (S X1) u1, .str (S X2) u2], cc, hS4, [(S X1, u1), (S X2, u2)], rfl, ?_, fun t' kk' => ?_⟩
  · have h1 := hC1.len
    have h2 := hC2.len
    exact joinOk_two (by omega) (by omega)
  · have sf4 := (sf3.setGen .finished).heap (h' := h4) (tk := kk')
    obtain ⟨gL', m', a1, a2, r', c', G⟩ := G4
    rw [show ([(S X1, u1), (S X2, u2)].map (·.1)) = [S X1, S X2] from rfl, join_two]
    have e := shared_of (s := { s3.setGen gi .finished with heap := h4 }) (s0 := s0) (tk := kk') sf4.dr sf4.os
    rw [e]
    refine kk h4 (s3.setGen gi .finished).gens kk' t' X1 W1 X2 W2 gL' m' r' a1 a2 G.turn G.fr (fun q hq => G.news q (.tail _ (.tail _ (.tail _ (.tail _ hq))))) G.below G.dicts G.tabs G.keep ?_ (fun y hy => ?_) hC1 hC2
    · exact ⟨rfl, rfl, sf4.lt, sf4.old, sf4.bare⟩
    · have := sf3.self (x := .finished)
      rw [this] at hy
      obtain rfl := Option.some.inj hy
      rfl
end
end Mine
end

section
set_option Elab.async false
namespace Mine
theorem head_le : ∀ {a b : List Nat}, a < b → a ≠ [] → ∃ c d, a.head? = some c ∧ b.head? = some d ∧ c ≤ d
  | [], _, _, h => absurd rfl h
  | c :: a, [], h, _ => absurd h (List.not_lt_nil _)
  | c :: a, d :: b, h, _ => by
    rw [List.cons_lt_cons_iff] at h
    exact ⟨c, d, rfl, rfl, by rcases h with h | ⟨h, _⟩ <;> omega⟩
theorem lcp_nil {a b : List Nat} (h : lcp a b = []) (ha : a ≠ []) (hb : b ≠ []) : a.head? ≠ b.head? := by
  cases a with
  | nil => exact absurd rfl ha
  | cons c a =>
    cases b with
    | nil => exact absurd rfl hb
    | cons d b =>
      intro q
      have q : c = d := by simpa using q
      unfold lcp at h
      rw [if_pos q] at h
      cases h
theorem heads_cut (v : Option Nat) : ∀ (ws : List (List Nat)), (∀ i j (hi : i < ws.length) (hj : j < ws.length), i < j → ws[j].head? = v → ws[i].head? = v) →
    ∃ k, k ≤ ws.length ∧ (∀ j (h : j < ws.length), j < k → decide (ws[j].head? = v) = true) ∧ (∀ j (h : j < ws.length), k ≤ j → decide (ws[j].head? = v) = false)
  | [], _ => ⟨0, Nat.le_refl _, fun j h => absurd h (Nat.not_lt_zero _), fun j h => absurd h (Nat.not_lt_zero _)⟩
  | z :: r, hm => by
    obtain ⟨k, h1, h2, h3⟩ := heads_cut v r fun i j hi hj hij he => hm (i + 1) (j + 1) (Nat.succ_lt_succ hi) (Nat.succ_lt_succ hj) (Nat.succ_lt_succ hij) he
    by_cases hz : z.head? = v
    · refine ⟨k + 1, Nat.succ_le_succ h1, fun j h hj => ?_, fun j h hj => ?_⟩
      · cases j with
        | zero => exact decide_eq_true hz
        | succ j => exact h2 j (Nat.lt_of_succ_lt_succ h) (Nat.lt_of_succ_lt_succ hj)
      · cases j with
        | zero => omega
        | succ j => exact h3 j (Nat.lt_of_succ_lt_succ h) (Nat.le_of_succ_le_succ hj)
    · refine ⟨0, Nat.zero_le _, fun j h hj => absurd hj (Nat.not_lt_zero _), fun j h _ => ?_⟩
      cases j with
      | zero => exact decide_eq_false hz
      | succ j => exact decide_eq_false fun he => hz (hm 0 (j + 1) (Nat.zero_lt_succ _) h (Nat.zero_lt_succ _) he)
theorem split_group {x : List Nat} {tl : List (List Nat)} (hs : (x :: tl).Pairwise fun a b => a < b) (hne : ∀ z ∈ x :: tl, z ≠ []) {a b : List Nat} (ha : a ∈ x :: tl) (hb : b ∈ x :: tl) (hq : lcp a b = []) :
    ∃ k, 0 < k ∧ k < (x :: tl).length ∧ (∀ j (h : j < (x :: tl).length), j < k → decide ((x :: tl)[j].head? = x.head?) = true) ∧ (∀ j (h : j < (x :: tl).length), k ≤ j → decide ((x :: tl)[j].head? = x.head?) = false) := by
  have mono : ∀ i j (hi : i < (x :: tl).length) (hj : j < (x :: tl).length), i < j → ∃ c d, (x :: tl)[i].head? = some c ∧ (x :: tl)[j].head? = some d ∧ c ≤ d := fun i j hi hj hij =>
    head_le (List.pairwise_iff_getElem.mp hs i j hi hj hij) (hne _ (List.getElem_mem hi))
  obtain ⟨k, h1, h2, h3⟩ := heads_cut x.head? (x :: tl) fun i j hi hj hij he => by
    obtain ⟨c, d, e1, e2, hcd⟩ := mono i j hi hj hij
    cases i with
    | zero => rfl
    | succ i =>
      obtain ⟨c0, d0, f1, f2, hcd0⟩ := mono 0 (i + 1) (Nat.zero_lt_succ _) hi (Nat.zero_lt_succ _)
      have f1 : x.head? = some c0 := f1
      rw [e2, f1] at he
      rw [e1] at f2
      obtain rfl := Option.some.inj he
      obtain rfl := Option.some.inj f2
      rw [e1, f1]
      congr 1
      omega
  refine ⟨k, ?_, ?_, h2, h3⟩
  · refine Classical.byContradiction fun q => ?_
    have := h3 0 (Nat.zero_lt_succ _) (by omega)
    simp at this
  · refine Classical.byContradiction fun q => ?_
    have all : ∀ z ∈ x :: tl, z.head? = x.head? := fun z hz => by
      obtain ⟨j, hj, rfl⟩ := List.mem_iff_getElem.mp hz
      exact of_decide_eq_true (h2 j hj (by omega))
    exact lcp_nil hq (hne a ha) (hne b hb) ((all a ha).trans (all b hb).symm)
end Mine
end

section
open PySem PySem.W PySem.Calls PyProof.Rows PySem.Spec
set_option Elab.async false
set_option maxRecDepth 100000
namespace Mine
/-- what '|'.join does with the generator that was just made -/
def JoinSays (w : World) (base g0 : Heap) (outer : List Env) (A₀ A : Around) (L : Addr) (m : PySem.Str → Option Value) (keep0 : List (Addr × Obj)) (ws : List (List Nat)) (k : Nat) (s4 : Shared) (a : Addr) (h5 : Heap) (G5 : Array GenState) : Prop :=
  ∀ (tk : Nat) (tq : Tok) (Q E : Value → Shared → Prop),
   (∀ h' gens' tk t X1 W1 X2 W2 g' r' q1 q2, KtsTurn (outer.filterMap (·.frame)) g0 g' → Fr g' L h' m → News g' L h' r' → Below A₀ base outer g' → KtsDicts (outer.filterMap (·.frame)) g' → Tabs r' q1 q2 → (∀ q ∈ keep0, q ∈ r') →
     (∀ i, i < s4.gens.size → gens'[i]? = s4.gens[i]?) → GUp s4.gens gens' → Cx (ws.take k) X1 W1 → Cx (ws.drop k) X2 W2 → Q (.str (S (X1 ++ [124] ++ X2)) t) { s4 with heap := h', gens := gens', toks := tk }) →
   wpAny (model PR w) A (call (.builtin "str.join") [.str (S [124]) tq, .ref a]) Q E { s4 with heap := h5, gens := G5, toks := tk }
abbrev genObj (gi : Nat) (nm qn : Value) : Obj := { cls := .type "generator", data := .fields #[.int gi 0, nm, qn] }
section
variable {w : World} {base : Heap} {loose : List PySem.Str} {mean : ExcName → Option Value} {mg mb : PySem.Str → Option Value}
   {x : List Nat} {f : Addr} {os : List (Addr × Obj)} {vs : List Value} {ws : List (List Nat)} {k nl n : Nat} {l I gb d L : Addr} {keep0 led2 : List (Addr × Obj)} {A₀ : Around} {outer : List Env} {g0 g h' : Heap} {env cenv : Env} {dj un : Nat} {gd : Option (List Code)} {s4 : Shared} {m mC : PySem.Str → Option Value} {q1 q2 : Array Value}
   {iter : Expr} {px p1 p2 p3 p4 p5 p6 p7 p8 pos : Pos} {scope : Scope} {t1 t2 : Tok} {nm qn : Value} {ofr : Obj}
theorem gen_setup (XB : (KF w).In base) (TB : Top PySem.W.topProg loose mean mg mb base) (ih : InnerSpec w base n) (F2 : Fr g L s4.heap m) (N2 : News g L s4.heap led2) (B : Below A₀ base outer g) (D : KtsDicts (outer.filterMap (·.frame)) g) (K0 : KtsTurn (outer.filterMap (·.frame)) g0 g) (hf : env.frame = some L) (hck : env.scope.kind ≠ .module)
   (hT2 : Tabs led2 q1 q2) (mI : (I, iterO l 0) ∈ led2) (mg' : (gb, gbO I f d (.int 0 t1) .none .none (.bool false) (.bool false) (.bool false) (.int 0 t2) .none) ∈ led2) (md : (d, dictOf [] 0) ∈ led2)
   (hL : LamSpec w base x f os) (hos : ∀ q ∈ os, q ∈ keep0) (hS : StrsAre vs (ws.map S)) (lm : (l, listOf vs.toArray nl) ∈ keep0) (k0 : 0 < k) (k1 : k < ws.length) (len : ws.length ≤ 60)
   (hg1 : ∀ j (h : j < ws.length), j < k → decide (ws[j].head? = x.head?) = true) (hg2 : ∀ j (h : j < ws.length), k ≤ j → decide (ws[j].head? = x.head?) = false) (ne : ∀ z ∈ ws, z ≠ [] ∧ z.length ≤ 100)
   (kp : ∀ q ∈ keep0, q ∈ led2 ∧ q.1 ≠ 52 ∧ q.1 ≠ 176 ∧ q.1 ≠ I ∧ q.1 ≠ gb) (nI : I ≠ 52 ∧ I ≠ 176) (ng : gb ≠ 52 ∧ gb ≠ 176) (nd : d ≠ 52 ∧ d ≠ 176) (e1 : gb ≠ I) (e2 : d ≠ I) (e3 : d ≠ gb)
   (hd : dj + 1 + 4 * n < 900) (hm1 : msr (ws.take k) < n) (hm2 : msr (ws.drop k) < n) (hs1 : Srt (ws.take k)) (hs2 : Srt (ws.drop k))
   (J : GEnv cenv s4.heap.objs.size) (hn' : h'.Ns s4.heap.objs.size mC) (hs' : Heap.SameBut s4.heap.objs.size (s4.heap.push ofr) h')
   {h5 : Heap} {G5 : Array GenState} (hO : h'.push (genObj s4.gens.size nm qn) = h5) (hG : s4.gens.push (.fresh (startC (theElt p1 p2 p3 p4 p5 p6 p7 p8) iter (PySem.Str.ofString "group") px scope pos gb cenv)) = G5) :
   Fr g L h5 m ∧ News g L h5 ((h'.objs.size, genObj s4.gens.size nm qn) :: led2) ∧
   JoinSays w base g0 outer A₀ (At dj (some (env :: outer)) gd un) L m keep0 ws k s4 h'.objs.size h5 G5 := by
  subst hO hG
  have hsz : h'.objs.size = s4.heap.objs.size + 1 := by rw [hs'.1, Heap.size_push]
  have keep' : ∀ b o, s4.heap.get? b = some o → h'.get? b = some o := fun b o e => hs'.extBut b o (Nat.ne_of_lt (Heap.lt_size e)) (Heap.get?_push_of_some _ e)
  have keep5 : ∀ b o, s4.heap.get? b = some o → (h'.push (genObj s4.gens.size nm qn)).get? b = some o := fun b o e => Heap.get?_push_of_some _ (keep' b o e)
  have ga : (h'.push (genObj s4.gens.size nm qn)).get? h'.objs.size = some (genObj s4.gens.size nm qn) := Heap.get?_push_size _ rfl
  have hLC : L < s4.heap.objs.size := F2.ns.lt
  have lt2 : ∀ q ∈ led2, q.1 < s4.heap.objs.size := fun q hq => Heap.lt_size (N2 q hq).1
  have hgn : ∀ b, s4.heap.objs.size ≤ b → g.get? b = none := fun b hb => Heap.get?_none_of_le (Nat.le_trans F2.above (Nat.le_trans (Nat.le_of_lt hLC) hb))
  refine ⟨F2.keeps keep5, fun q hq => ?_, ?_⟩
  · rcases List.mem_cons.mp hq with rfl | hq
    · refine ⟨ga, ?_, hgn _ (by show _ ≤ h'.objs.size; omega)⟩
      show h'.objs.size ≠ L
      rw [hsz]
      exact Nat.ne_of_gt (Nat.lt_succ_of_lt hLC)
    · exact ⟨keep5 _ _ (N2 q hq).1, (N2 q hq).2⟩
  intro tk tq Q E kk
  obtain ⟨gL, G4, back⟩ := ground_of (s := s4) (A := At dj (some (env :: outer)) gd un) B F2 N2 D K0 rfl hf hck
  have h176 := lt2 _ hT2.m176
  have h176 : 176 < s4.heap.objs.size := h176
  have hIC : I < s4.heap.objs.size := lt2 _ mI
  have hgC : gb < s4.heap.objs.size := lt2 _ mg'
  have hdC : d < s4.heap.objs.size := lt2 _ md
  have hSz : (h'.push (genObj s4.gens.size nm qn)).objs.size = s4.heap.objs.size + 2 := by rw [Heap.size_push, hsz]
  have hgL : ∀ b, s4.heap.objs.size ≤ b → gL.get? b = none := fun b hb => Heap.get?_none_of_le (Nat.le_trans G4.size hb)
  have NC : ∀ q ∈ led2, (h'.push (genObj s4.gens.size nm qn)).get? q.1 = some q.2 ∧ q.1 ≠ s4.heap.objs.size ∧ gL.get? q.1 = none := fun q hq => ⟨keep5 _ _ (N2 q hq).1, Nat.ne_of_lt (lt2 q hq), (G4.led q hq).2⟩
  have ne' : ∀ {p q : Nat}, p < q → p ≠ q := fun h => Nat.ne_of_lt h
  refine gen_join2 (s := { s4 with heap := h'.push (genObj s4.gens.size nm qn), gens := s4.gens.push (.fresh (startC (theElt p1 p2 p3 p4 p5 p6 p7 p8) iter (PySem.Str.ofString "group") px scope pos gb cenv)), toks := tk }) (s0 := s4) (gi := s4.gens.size) (a := h'.objs.size) (oa := genObj s4.gens.size nm qn) (keepL := (h'.objs.size, genObj s4.gens.size nm qn) :: keep0) (r0 := (h'.objs.size, genObj s4.gens.size nm qn) :: offF I gb gb led2) (fs := env :: outer) (gL0 := gL) (gL := gL) (A₀ := At dj (some (env :: outer)) gd un) (t1 := t1) (t2 := t2) (scope := scope) (pos := pos) (p1 := p1) (p2 := p2) (p3 := p3) (p4 := p4) (p5 := p5) (p6 := p6) (p7 := p7) (p8 := p8) (px := px) (iter := iter) (q1 := q1) (q2 := q2)
    XB TB ih ⟨hL, hS, k0, k1, len, hg1, hg2, ne, fun q hq => .tail _ (hos q hq), .tail _ lm, ?kp, nI, ng, nd, ?nS, e1, e2, e3, ?e4, ?e5, ?e6⟩ J hd hm1 hm2 hs1 hs2 (fun h e => ⟨_, nm, qn, e, rfl, rfl, rfl⟩) (.head _) ?hgs ?sf KtsTurn.refl ⟨hn'.push _, fun b o e => keep5 b o (G4.keep b o e), G4.size⟩ ?N G4.below G4.dicts ?T ?kl ?off ?kk
  case kp =>
    intro q hq
    show q.1 ≠ 52 ∧ q.1 ≠ 176 ∧ q.1 ≠ I ∧ q.1 ≠ gb ∧ q.1 ≠ (h'.push (genObj s4.gens.size nm qn)).objs.size
    rw [hSz]
    rcases List.mem_cons.mp hq with rfl | hq
    · show h'.objs.size ≠ 52 ∧ h'.objs.size ≠ 176 ∧ h'.objs.size ≠ I ∧ h'.objs.size ≠ gb ∧ h'.objs.size ≠ s4.heap.objs.size + 2
      rw [hsz]
      exact ⟨(ne' (by omega)).symm, (ne' (by omega)).symm, (ne' (Nat.lt_succ_of_lt hIC)).symm, (ne' (Nat.lt_succ_of_lt hgC)).symm, ne' (Nat.lt_succ_self _)⟩
    · obtain ⟨h0, h1, h2, h3, h4⟩ := kp q hq
      exact ⟨h1, h2, h3, h4, ne' (Nat.lt_trans (lt2 q h0) (by omega))⟩
  case nS => show (h'.push (genObj s4.gens.size nm qn)).objs.size ≠ 52 ∧ (h'.push (genObj s4.gens.size nm qn)).objs.size ≠ 176; rw [hSz]; exact ⟨(ne' (by omega)).symm, (ne' (by omega)).symm⟩
  case e4 => show (h'.push (genObj s4.gens.size nm qn)).objs.size ≠ I; rw [hSz]; exact (ne' (Nat.lt_trans hIC (by omega))).symm
  case e5 => show (h'.push (genObj s4.gens.size nm qn)).objs.size ≠ gb; rw [hSz]; exact (ne' (Nat.lt_trans hgC (by omega))).symm
  case e6 => show (h'.push (genObj s4.gens.size nm qn)).objs.size ≠ d; rw [hSz]; exact (ne' (Nat.lt_trans hdC (by omega))).symm
  case hgs => exact Array.getElem?_push_size ..
  case sf =>
    refine ⟨rfl, rfl, by show _ < (s4.gens.push _).size; rw [Array.size_push]; exact Nat.lt_succ_self _, fun i hi => ?_, fun i y hi hy => ?_⟩
    · show (s4.gens.push _)[i]? = _
      rw [Array.getElem?_push, if_neg (Nat.ne_of_lt hi)]
    · have hy : (s4.gens.push _)[i]? = some y := hy
      obtain ⟨hlt, _⟩ := Array.getElem?_eq_some_iff.mp hy
      rw [Array.size_push] at hlt
      omega
  case N =>
    intro q hq
    simp only [List.mem_cons] at hq
    rcases hq with rfl | rfl | rfl | rfl | hq
    · exact NC _ mI
    · exact NC _ mg'
    · exact NC _ md
    · refine ⟨ga, ?_, hgL _ (by show _ ≤ h'.objs.size; omega)⟩
      show h'.objs.size ≠ s4.heap.objs.size
      rw [hsz]; exact Nat.succ_ne_self _
    · exact NC _ (offF_sub hq).1
  case T =>
    have h0 : Tabs (offF I gb gb led2) q1 q2 := hT2.off (fun q hq => (N2 q hq).1) (N2 _ mI).1 (noStr_iterO _ _) (N2 _ mg').1 (noStr_gb _ _ _ _ _ _ _ _ _ _ _) (N2 _ mg').1 (noStr_gb _ _ _ _ _ _ _ _ _ _ _) (by
      rintro a (rfl | rfl)
      · exact ⟨nI.1.symm, ng.1.symm, ng.1.symm⟩
      · exact ⟨nI.2.symm, ng.2.symm, ng.2.symm⟩)
    exact h0.sub (.tail _ h0.m52) (.tail _ h0.m176) fun q hq _ _ => .tail _ hq
  case kl =>
    intro q hq
    rcases List.mem_cons.mp hq with rfl | hq
    · exact .head _
    · obtain ⟨h0, h1, h2, h3, h4⟩ := kp q hq
      exact .tail _ (offF_mem h0 h3 h4 h4)
  case off =>
    intro q hq
    rcases List.mem_cons.mp hq with rfl | hq
    · show h'.objs.size ≠ I ∧ h'.objs.size ≠ gb
      rw [hsz]
      exact ⟨(ne' (Nat.lt_succ_of_lt hIC)).symm, (ne' (Nat.lt_succ_of_lt hgC)).symm⟩
    · exact ⟨(offF_sub hq).2.1, (offF_sub hq).2.2.1⟩
  case kk =>
    intro h'' gens'' tk'' t'' X1 W1 X2 W2 gL' m' r' a1 a2 T9 F9 N9 B9 D9 hT9 hk9 sf hbg hc1 hc2
    obtain ⟨g9, T', F', N', B', D'⟩ := back gL' h'' r' T9 ⟨B9, D9, F9.keep, Nat.le_trans F9.above (Nat.le_of_lt F9.ns.lt), fun q hq => ⟨(N9 q hq).1, (N9 q hq).2.2⟩⟩
    refine kk h'' gens'' tk'' t'' X1 W1 X2 W2 g9 r' a1 a2 T' F' N' B' D' hT9 (fun q hq => hk9 q (.tail _ hq)) sf.old ⟨Nat.le_of_lt sf.lt, fun i y hi hy => ?_⟩ hc1 hc2
    rcases Nat.lt_or_eq_of_le hi with hi | rfl
    · exact sf.bare i y hi hy
    · exact hbg y hy
theorem item_head {z x : List Nat} (hz : z ≠ []) (hx : x ≠ []) : (Txt.item (S z) 0 == Txt.item (S x) 0) = decide (z.head? = x.head?) := by
  cases z with
  | nil => exact absurd rfl hz
  | cons c z =>
    cases x with
    | nil => exact absurd rfl hx
    | cons e x =>
      rw [item_S (by omega) (by simp), item_S (by omega) (by simp)]
      simp only [Int.toNat_zero, List.getD_cons_zero]
      by_cases h : c = e
      · subst h; simp
      · rw [decide_eq_false (show ¬ ((c :: z).head? = (e :: x).head?) from fun q => h (Option.some.inj q))]
        exact beq_false_of_ne fun q => h (by simpa using S_inj q)
theorem cx_grp {x : List Nat} {tl : List (List Nat)} {kc : Nat} {X1 X2 : List Nat} {W1 W2 : List (List Nat)} (k0 : 0 < kc) (k1 : kc < (x :: tl).length) (hne : ∀ z ∈ x :: tl, z ≠ [])
   (hg1 : ∀ j (h : j < (x :: tl).length), j < kc → decide ((x :: tl)[j].head? = x.head?) = true) (hg2 : ∀ j (h : j < (x :: tl).length), kc ≤ j → decide ((x :: tl)[j].head? = x.head?) = false)
   (hC1 : Cx ((x :: tl).take kc) X1 W1) (hC2 : Cx ((x :: tl).drop kc) X2 W2) : Cx (x :: tl) (X1 ++ [124] ++ X2) (W1 ++ W2) := by
  obtain ⟨c, x', hx⟩ : ∃ c x', x = c :: x' := by
    cases x with
    | nil => exact absurd rfl (hne [] (List.mem_cons_self ..))
    | cons c x' => exact ⟨c, x', rfl⟩
  have hh : x.head? = some c := by rw [hx]; rfl
  have h := Cx.grp c hC1.ne hC2.ne (fun z hz => ?_) (fun z hz => ?_) hC1 hC2
  · rwa [List.take_append_drop] at h
  · obtain ⟨j, hj, rfl⟩ := List.mem_iff_getElem.mp hz
    rw [List.length_take] at hj
    rw [List.getElem_take]
    exact (of_decide_eq_true (hg1 j (by omega) (by omega))).trans hh
  · obtain ⟨j, hj, rfl⟩ := List.mem_iff_getElem.mp hz
    rw [List.length_drop] at hj
    rw [List.getElem_drop]
    exact ⟨hne _ (List.getElem_mem _), fun q => of_decide_eq_false (hg2 (kc + j) (by omega) (by omega)) (q.trans hh.symm)⟩
theorem tabs_for {g h : Heap} {L : Addr} {led : List (Addr × Obj)} {p1 p2 : Array Value} (_N : News g L h led) (T : Tabs led p1 p2) : Tabs led p1 p2 := T
end
end Mine
end

section
open PySem PySem.W PyProof.Rows
set_option Elab.async false
namespace Mine
theorem lam_intro {w : World} {base g h : Heap} {L : Addr} {x : List Nat} {f : Addr} {o : Obj} {c e1 e2 e3 e4 : Addr × Obj} {r : List (Addr × Obj)} (_ : News g L h ((f, o) :: c :: e1 :: e2 :: e3 :: e4 :: r)) (h : LamSpec w base x f [(f, o), c, e4]) : LamSpec w base x f [(f, o), c, e4] := h
section
local macro_rules | `(tactic| k_room) => `(tactic| ((try simp only [depth_under_make, depth_under_kw, depth_in1, depth_deeper, depth_caller]); (try dsimp only [At]); simp only [recursionLimit]; omega))
local macro_rules | `(tactic| k_all) => `(tactic| first | with_reducible assumption | ((with_reducible refine OffA.use (by with_reducible assumption) ?_); omega))
local macro_rules | `(tactic| size_fits) => `(tactic| exact Nat.le_of_ble_eq_true rfl)
local macro_rules | `(tactic| walk_at "ite") => `(tactic| first | refine ite_no (by with_reducible assumption) ?_ | refine ite_yes (by with_reducible assumption) ?_)
local macro_rules | `(tactic| walk_at "callWith") => `(tactic| ((try dsimp only); (with_reducible show wpAny _ _ (callWith _ (Value.builtin "list.append") (_ :: _) _ _) _ _ _); refine callWith_method1 ?_))
local macro_rules | `(tactic| k_steps) => `(tactic| repeat' ((fail_if_success (with_reducible show wpAny _ _ (call (Value.builtin "list.append") _) _ _ _)); (fail_if_success (with_reducible show wpAny _ _ (call (Value.ref 174) _) _ _ _)); (fail_if_success (with_reducible show wpAny _ _ (call (Value.ref 50) _) _ _ _)); (fail_if_success (with_reducible show wpAny _ _ (call (Value.ref 57) _) _ _ _)); (fail_if_success (with_reducible show wpAny _ _ (call (Value.ref 179) _) _ _ _)); (fail_if_success (with_reducible show wpAny _ _ (truthy (Value.ref _)) _ _ _)); (fail_if_success (with_reducible show wpAny _ _ (call (Value.builtin "len") [Value.ref _]) _ _ _)); (fail_if_success (with_reducible show wpAny _ _ (storeName _ (PySem.Str.ofString "first") _) _ _ _)); (fail_if_success (with_reducible show wpAny _ _ (eval (Expr.Lambda _ _ _ _) _) _ _ _)); (fail_if_success (with_reducible show LCg.CompSrc ..)); (fail_if_success (with_reducible show wpAny _ _ (exec (Stmt.For _ _ _ _ _) _) _ _ _)); (fail_if_success (with_reducible show wpAny _ _ (subscriptTail _ (Expr.Slice _ _ none _) (Value.ref _) (Value.ref _)) _ _ _)); (fail_if_success (with_reducible show wpAny _ _ (exec (Stmt.Assign _ (Expr.ListComp _ _ _ _) _) _) _ _ _)); first | (k_unfold; (try dsimp only)) | (k_end; wrow_close) | walk1 | (dsimp only; walk1) | (leave1; walk_say "STEP leave1"; try dsimp only) | fail "no step"))
set_option maxRecDepth 100000 in
set_option maxHeartbeats 8000000 in
theorem inner_spec {w : World} {base : Heap} {loose : List PySem.Str} {mean : ExcName → Option Value} {mg mb : PySem.Str → Option Value} (XB : (KF w).In base) (TB : Top PySem.W.topProg loose mean mg mb base) (hCS : CharsetSpec w) (hCd : CodeHd base 178 176) (n : Nat) : InnerSpec w base n := by
   induction n with
   | zero => intro _ _ _ _ _ _ _ _ _ _ _ _ _ _ _ _ _ h; exact absurd h (Nat.not_lt_zero _)
   | succ n ih =>
   intro dp un outer gd s Q E g led l vs nl ws p tp p1 p2 hm hd hsrt hne hp hpl G hT hl hS k
   have h52 := hT.m52
   have h176 := hT.m176
   delta PR KF at *
   revert XB; k_fill; intro XB
   refine wpAny_call ?_
   k_dflt (refine' enter_grdC G XB TB ?k6 ?k7 ?k8 ?k9 ?kB ?kD ?_ ?c2 ?c3 ?c4; (case k6 => k_is); (case k7 => k_is); (case k8 => (show dp < _; simp only [recursionLimit]; omega)); (case k9 => exact BindsTo.of_eq rfl); (case kB => exact rfl); (case kD => decide +kernel); (case c2 => exact rfl); (case c3 => exact rfl); (case c4 => exact rfl); k_whole)
   intro L h₁ tk cells hL F' N' Y' B' X' T' D' K0
   k_cells Y'
   rename_i o1 o2 o3 d1 d2 d3
   replace d1 : o1.data = .cell none := d1
   replace d2 : o2.data = .cell none := d2
   replace d3 : o3.data = .cell none := d3
   obtain ⟨u, F'⟩ := fr_fit (ps := [(PySem.Str.ofString "strings", .ref l), (PySem.Str.ofString "open_paren", .str (S p) tp)]) F' (by
     intro q hq
     simp only [List.mem_cons, List.not_mem_nil, or_false] at hq
     rcases hq with rfl | rfl <;> rfl)
   have hpl' : (S p).length ≤ 3 := by rw [S_len]; exact hpl
   have hLg : g.objs.size ≤ L := F'.above
   have h204 : 204 < g.objs.size := Heap.lt_size (X' 204 _ (by k_is))
   have hL176 : @LT.lt Nat _ 176 L := Nat.lt_of_lt_of_le (Nat.lt_trans (by decide) h204) hLg
   have hlL : @LT.lt Nat _ l L := by rw [hL]; exact Heap.lt_size (G.led _ hl).1
   have h204' : @LT.lt Nat _ 204 L := Nat.lt_of_lt_of_le h204 hLg
   have offL : ∀ q ∈ rst led, @LT.lt Nat _ q.1 L := fun q hq => by rw [hL]; exact Heap.lt_size (G.led _ (rst_sub hq)).1
   have off1 : ∀ q ∈ rst led, q.1 ≠ L + 1 := fun q hq => Nat.ne_of_lt (Nat.lt_of_lt_of_le (offL q hq) (Nat.le_add_right _ 1))
   have off2 : ∀ q ∈ rst led, q.1 ≠ L + 1 + 1 := fun q hq => Nat.ne_of_lt (Nat.lt_of_lt_of_le (offL q hq) (Nat.le_add_right _ 2))
   have off3 : ∀ q ∈ rst led, q.1 ≠ L + 1 + 1 + 1 := fun q hq => Nat.ne_of_lt (Nat.lt_of_lt_of_le (offL q hq) (Nat.le_add_right _ 3))
   have oA : OffA L (rst led) := fun D hD q hq => Nat.ne_of_lt (Nat.lt_trans (offL q hq) hD)
   have off52 : ∀ q ∈ rst led, q.1 ≠ 52 := fun q hq => (of_decide_eq_true (List.mem_filter.mp hq).2).1
   have off176 : ∀ q ∈ rst led, q.1 ≠ 176 := fun q hq => (of_decide_eq_true (List.mem_filter.mp hq).2).2
   obtain ⟨x, tl, rfl⟩ : ∃ x tl, ws = x :: tl := by cases ws with | nil => exact absurd rfl hne | cons x tl => exact ⟨x, tl, rfl⟩
   obtain ⟨tx, vs2, rfl, hS2⟩ : ∃ tx vs2, vs = .str (S x) tx :: vs2 ∧ StrsAre vs2 (tl.map S) := by cases hS with | cons _ t h => exact ⟨t, _, rfl, h⟩
   have hl176 : l ≠ 176 := by
     rintro rfl
     have q1 := (G.led _ hl).1
     have q2 := (G.led _ h176).1
     rw [q1] at q2
     cases q2
   have N0 : News g L h₁ ((52, tabObj p1) :: (176, tabObj p2) :: (L + 1, o3) :: (L + 1 + 1, o2) :: (L + 1 + 1 + 1, o1) :: (l, listOf (.str (S x) tx :: vs2).toArray nl) ::  rst led) := fun q hq => N' q (by
     simp only [List.mem_cons] at hq
     rcases hq with rfl | rfl | rfl | rfl | rfl | rfl | hq
     · exact List.mem_append_right _ h52
     · exact List.mem_append_right _ h176
     · simp
     · simp
     · simp
     · exact List.mem_append_right _ hl
     · exact List.mem_append_right _ (rst_sub hq))
   clear N'
   refine mid_close (p := p) F' N0 ?_ fun h₂ tk₂ tc F' N' => ?_
   · k_steps
     all_goals exact MidC.of (by with_reducible assumption) (by with_reducible assumption) (by first | exact cl_ne (by omega) | exact cl_z (by omega) | exact cl_s (by omega))
   clear N0
   have hll : tl.length + 1 ≤ 60 := hsrt.size
   have hvl : vs2.length = tl.length := by simpa using StrsAre.length hS2
   k_steps
   refine truthy_list_len (PySem.IsL.isList (N'.get (.tail _ (.tail _ (.tail _ (.tail _ (.tail _ (.head _)))))))) hS (by simp only [List.length_map, List.length_cons]; omega) fun tk3 => ?_
   rw [decide_eq_true (by simp)]
   k_steps
   have hx100 : (S x).length ≤ 100 := by rw [S_len]; exact hsrt.short x (List.mem_cons_self ..)
   have hcl : (S (cl p)).length ≤ 1 := by rw [S_len, cl]; split <;> simp
   have hdp : dp + 1 < 900 := by omega
   have vsz : (.str (S x) tx :: vs2 : List Value).length ≤ 60 := by rw [List.length_cons]; omega
   refine' storeX_C ?F ?N ?c ?U ?d ?_ ?a ?b
   case a => rfl
   case b => rfl
   case F => exact F'
   case N => exact N'
   case c => rfl
   case U => k_updF
   case d => exact d2
   intro h3 o2' F3 N3 d2'
   dsimp only at N3 ⊢
   refine execs_mid (Mid := MidI s g L ((52, tabObj p1) :: (176, tabObj p2) :: (L + 1, o3) :: (L + 1 + 1, o2') :: (L + 1 + 1 + 1, o1) :: (l, listOf (.str (S x) tx :: vs2).toArray nl) :: rst led) [(PySem.Str.ofString "strings", .ref l), (PySem.Str.ofString "open_paren", .str (S p) tp), (PySem.Str.ofString "close_paren", .str (S (cl p)) tc)] (tl ≠ [])) ?_ ?_
   · k_steps
     refine len_list (PySem.IsL.isList (N3.get (.tail _ (.tail _ (.tail _ (.tail _ (.tail _ (.head _)))))))) (by simp; omega) ?_
     k_steps
     · -- one word
       rename (_ = (1 : Int)) => q1
       have ht : tl = [] := by
         simp only [List.size_toArray, List.length_cons] at q1
         exact List.length_eq_zero_iff.mp (by omega)
       subst ht
       rename (Fr _ _ _ _) => F3
       rename (News _ _ _ _) => N3
       have hex : (S (escL x)).length ≤ 200 := by rw [S_len] at hx100 ⊢; have := escL_len x; omega
       refine escape_N X' T' hdp F3 N3 (by rw [S_len] at hx100; omega) fun h3 tk3 t3 F3 N3 => ?_
       k_sweep
       k_steps
       rw [S_app, S_app]
       exact k g _ _ _ _ _ _ _ _ _ K0 (Fr.grd (by with_reducible assumption) N3 B' D') (hT.sub (.head _) (.tail _ (.head _)) fun q hq h1 h2 => by simp [rst_mem hq h1 h2]) (fun q hq h1 h2 => by simp [rst_mem hq h1 h2]) (fun _ _ => rfl) (GUp.refl _) (.one x)
     · rename (_ ≠ (1 : Int)) => q1
       refine MidI.of (by with_reducible assumption) (by with_reducible assumption) ?_ (fun _ hq => hq) ?_
       · intro q hq
         simp only [List.mem_cons, List.not_mem_nil, or_false] at hq
         rcases hq with rfl | rfl | rfl <;> rfl
       · rintro rfl
         simp only [List.size_toArray, List.length_cons] at q1
         simp only [List.length_nil] at hvl
         omega
   clear F3 N3
   rintro s3 ⟨htl, h4, tk4, u4, rfl, F4, N4⟩
   refine execs_mid (Mid := MidI s g L ((52, tabObj p1) :: (176, tabObj p2) :: (L + 1, o3) :: (L + 1 + 1, o2') :: (L + 1 + 1 + 1, o1) :: (l, listOf (.str (S x) tx :: vs2).toArray nl) :: rst led) [(PySem.Str.ofString "strings", .ref l), (PySem.Str.ofString "open_paren", .str (S p) tp), (PySem.Str.ofString "close_paren", .str (S (cl p)) tc)] (x ≠ [])) ?_ ?_
   · k_steps
     · refine MidI.of (by with_reducible assumption) (by with_reducible assumption) ?_ (fun _ hq => hq) ?_
       · intro q hq
         simp only [List.mem_cons, List.not_mem_nil, or_false] at hq
         rcases hq with rfl | rfl | rfl <;> rfl
       · rintro rfl
         rename (_ ≠ (0 : Int)) => q2
         exact q2 rfl
     · -- the first word is empty
       rename (_ = (0 : Int)) => q2
       have hx0 : x = [] := by rw [S_len] at q2; exact List.length_eq_zero_iff.mp (by omega)
       subst hx0
       rename (Fr _ _ _ _) => F5
       rename (News _ _ _ _) => N5
       refine' kms_slice_lit (zs := vs2) F5 N5 (PySem.IsL.isList (N5.get (.tail _ (.tail _ (.tail _ (.tail _ (.tail _ (.head _)))))))) (.int _ _) .none ?e ?_ ?s ?t ?z
       case e => simp [kms_pick, kms_lo, kms_hi]
       case s => with_unfolding_all rfl
       case t => kmk_pure
       case z => simp only [List.size_toArray, sizeLine]; omega
       intro D h5 F6 N6 l6
       k_lt l6
       k_sweep
       k_steps
       have hmt : msr tl < n := by rw [msr_cons] at hm; simp only [List.length_nil] at hm; omega
       refine inner_N (p := GRP) ih (by with_reducible assumption) (by with_reducible assumption) B' D' K0 rfl (by show ScopeKind.function ≠ ScopeKind.module; decide) hmt (by show dp + 1 + 4 * n < 900; omega) hsrt.tail htl (fun q => by cases q) (by decide) (hT.sub (.tail _ (.head _)) (.tail _ (.tail _ (.head _))) fun q hq h1 h2 => by simp [rst_mem hq h1 h2]) (.head _) hS2 ?_
       intro g2 led2 h6 gens2 tk6 t6 q1' q2' X W T2 F7 N7 B7 D7 hT7 hsub hg1 hg2 hC
       have hXl := hC.len
       have hXl : (S (GRP ++ X ++ cl GRP)).length ≤ 2000 := by rw [grp_len]; omega
       have X7 := XB.keeps B7.stays
       have T7 := TB.keeps B7.stays
       k_sweep
       k_steps
       rw [show PySem.Str.ofString "?" = S [63] from rfl, S_app, S_app, S_app, show p ++ (GRP ++ X ++ cl GRP) ++ [63] ++ cl p = p ++ (GRP ++ X ++ [41] ++ [63]) ++ cl p by simp [cl, GRP]]
       exact k g2 led2 _ gens2 _ _ q1' q2' _ _ T2 (Fr.grd F7 N7 B7 D7) hT7 (fun q hq h1 h2 => hsub q (by simp [rst_mem hq h1 h2]) h1 h2) hg1 hg2 (.opt hC)
   clear F4 N4
   rintro s3 ⟨hx0, h4, tk4, u4, rfl, F4, N4⟩
   refine execs_mid (Mid := MidI s g L ((52, tabObj p1) :: (176, tabObj p2) :: (L + 1, o3) :: (L + 1 + 1, o2') :: (L + 1 + 1 + 1, o1) :: (l, listOf (.str (S x) tx :: vs2).toArray nl) :: rst led) [(PySem.Str.ofString "strings", .ref l), (PySem.Str.ofString "open_paren", .str (S p) tp), (PySem.Str.ofString "close_paren", .str (S (cl p)) tc)] True) ?_ ?_
   · k_steps
     · rename (_ = (1 : Int)) => q3
       have hx1 : x.length = 1 := by rw [S_len] at q3; omega
       rename (Fr _ _ _ _) => F5
       rename (News _ _ _ _) => N5
       rename (_ < _ ∧ _ < _ ∧ _) => l5
       refine for_list (l := l) (its := (.str (S x) tx :: vs2 : List Value).toArray) (nl := nl) rfl F5 N5 (SetJ (x :: tl) _ _ ((52, tabObj p1) :: (176, tabObj p2) :: (L + 1, o3) :: (L + 1 + 1, o2') :: (L + 1 + 1 + 1, o1) :: (l, listOf (.str (S x) tx :: vs2).toArray nl) :: rst led) [(PySem.Str.ofString "strings", .ref l), (PySem.Str.ofString "open_paren", .str (S p) tp), (PySem.Str.ofString "close_paren", .str (S (cl p)) tc)])
         ⟨_, [], [], 0, 0, fit_kstB ?hm, rfl, .nil, .nil⟩ ?hlJ ?hev ?turn ?done
       case hm =>
         intro q hq
         simp only [List.mem_cons, List.not_mem_nil, or_false, List.cons_append, List.nil_append] at hq
         rcases hq with rfl | rfl | rfl | rfl | rfl <;> rfl
       case hlJ =>
         rintro i m₁ led₁ ⟨u, vo, vr, no, nr, -, rfl, -, -⟩
         refine ⟨by simp, fun q hq => ?_⟩
         rcases List.mem_cons.mp hq with rfl | hq
         · exact ⟨_, .head _⟩
         · rcases List.mem_cons.mp hq with rfl | hq
           · exact ⟨_, .tail _ (.head _)⟩
           · exact ⟨_, .tail _ (.tail _ hq)⟩
       case hev =>
         k_steps
       case turn =>
         rintro i v m₁ led₁ h₁ tk₁ I oI hv ⟨u9, vo, vr, no, nr, rfl, rfl, ho, hr⟩ F6 N6 hI
         k_lt hI
         have hi : i < (x :: tl).length := by
           have := (Array.getElem?_eq_some_iff.mp hv).1
           simp only [List.size_toArray, List.length_cons] at this ⊢
           omega
         obtain ⟨tv, hvv⟩ := strs_item hS hi
         have hv' : v = .str (S (x :: tl)[i]) tv := by
           rw [List.getElem?_toArray] at hv
           exact Option.some.inj (hv.symm.trans hvv)
         subst hv'
         have hb : (S (x :: tl)[i]).length ≤ 100 := by rw [S_len]; exact hsrt.short _ (List.getElem_mem hi)
         have hvo : vo.length ≤ 60 := by
           have := StrsAre.length ho
           simp only [List.length_map] at this
           have h1 := List.length_filter_le (fun x : List Nat => x.length == 1) ((x :: tl).take i)
           simp only [List.length_take, List.length_cons] at h1
           omega
         have hvr : vr.length ≤ 60 := by
           have := StrsAre.length hr
           simp only [List.length_map] at this
           have h1 := List.length_filter_le (fun x : List Nat => !(x.length == 1)) ((x :: tl).take i)
           simp only [List.length_take, List.length_cons] at h1
           omega
         have hvo' : vo.toArray.size ≤ 60 := by simpa using hvo
         have hvr' : vr.toArray.size ≤ 60 := by simpa using hvr
         have et := List.take_succ_eq_append_getElem hi
         generalize (x :: tl)[i] = y at hb et hvv
         k_steps
         · rename (_ = (1 : Int)) => q4
           have hy1 : y.length = 1 := by rw [S_len] at q4; omega
           refine append_K (by with_reducible assumption) (by with_reducible assumption) (by k_upd) (fun h5 F5 N5 => ?_) (Nat.le_trans hvo' (by decide))
           k_sweep
           k_steps
           refine SetJ.end (by with_reducible assumption) (by with_reducible assumption) ?_ ?_ ?_
           · intro q hq
             simp only [List.mem_cons, List.not_mem_nil, or_false, List.cons_append, List.nil_append] at hq
             rcases hq with rfl | rfl | rfl | rfl | rfl <;> rfl
           · rw [et, (take_one hy1).1, List.map_append, Array.toList_push]
             exact StrsAre.append' ho (.cons _ _ .nil)
           · rw [et, (take_one hy1).2]
             exact hr
         · rename (_ ≠ (1 : Int)) => q4
           have hy1 : y.length ≠ 1 := by rw [S_len] at q4; omega
           refine append_K (by with_reducible assumption) (by with_reducible assumption) (by k_upd) (fun h5 F5 N5 => ?_) (Nat.le_trans hvr' (by decide))
           k_sweep
           k_steps
           refine SetJ.end (by with_reducible assumption) (by with_reducible assumption) ?_ ?_ ?_
           · intro q hq
             simp only [List.mem_cons, List.not_mem_nil, or_false, List.cons_append, List.nil_append] at hq
             rcases hq with rfl | rfl | rfl | rfl | rfl <;> rfl
           · rw [et, (take_not hy1).1]
             exact ho
           · rw [et, (take_not hy1).2, List.map_append, Array.toList_push]
             exact StrsAre.append' hr (.cons _ _ .nil)
       case done =>
         rintro m₁ led₁ h₁ tk₁ ⟨u9, vo, vr, no, nr, rfl, rfl, ho, hr⟩ F6 N6
         rw [List.take_of_length_le (by simp only [List.size_toArray, List.length_cons]; omega)] at ho hr
         have hlo := StrsAre.length ho
         have hlr := StrsAre.length hr
         rw [List.length_map] at hlo hlr
         have hfo := List.length_filter_le (fun x : List Nat => x.length == 1) (x :: tl)
         have hfr := List.length_filter_le (fun x : List Nat => !(x.length == 1)) (x :: tl)
         have h1s : ∀ y ∈ (x :: tl).filter (fun x => x.length == 1), y.length = 1 := fun y hy => by simpa using (List.mem_filter.mp hy).2
         have hmf := msr_filter (fun x => x.length == 1) (x :: tl)
         simp only [List.length_cons] at hfo hfr
         k_steps
         refine len_list (PySem.IsL.isList (News.get (by with_reducible assumption) (.tail _ (.head _)))) (by simp only [List.size_toArray]; omega) ?_
         k_steps
         · rename (_ < _) => q5
           simp only [List.size_toArray] at q5
           have h2s : (x :: tl).filter (fun x => x.length == 1) ≠ [] := fun q => by rw [q] at hlo; simp only [List.length_nil] at hlo; omega
           have hm1 := msr_ones h1s
           refine truthy_list_len (PySem.IsL.isList (News.get (by with_reducible assumption) (.head _))) hr (by rw [List.length_map]; omega) fun tk6 => ?_
           have hofl := ones_flat h1s
           have hflen := hm1.2
           by_cases hre : ((x :: tl).filter fun x => !(x.length == 1)) = []
           · -- one-sign words alone
             rw [decide_eq_false (by simp [hre])]
             k_steps
             refine charset_N (cs := ((x :: tl).filter fun x => x.length == 1).flatten) hCS X' T' (by show dp + 1 < 897; omega) (by with_reducible assumption) (by with_reducible assumption) (hT.sub (.tail _ (.tail _ (.head _))) (.tail _ (.tail _ (.tail _ (.head _)))) fun q hq h1 h2 => by simp [rst_mem hq h1 h2]) (by omega) (.tail _ (.head _)) (by rw [hofl]; exact ho) (by omega) ?_
             intro h7 tk7 t7 p1' led7 F7 N7 T7 hsub
             k_sweep
             have hlc : (S ([91] ++ encL ((x :: tl).filter fun x => x.length == 1).flatten ++ [93])).length ≤ 200 := by
               have := encL_len ((x :: tl).filter fun x => x.length == 1).flatten
               rw [S_len]; simp only [List.length_append, List.length_cons, List.length_nil]; omega
             k_steps
             have hall : ∀ y ∈ x :: tl, y.length = 1 := fun y hy => by
               refine Classical.byContradiction fun q => ?_
               have : y ∈ (x :: tl).filter fun x => !(x.length == 1) := List.mem_filter.mpr ⟨hy, by simpa using q⟩
               rw [hre] at this
               cases this
             have hf : (x :: tl).filter (fun x => x.length == 1) = x :: tl := List.filter_eq_self.mpr fun y hy => by simpa using hall y hy
             rw [hf, S_app, S_app]
             exact k g led7 _ _ _ _ p1' p2 _ _ K0 (Fr.grd F7 N7 B' D') T7 (fun q hq h1 h2 => hsub q (by simp [rst_mem hq h1 h2]) h1) (fun _ _ => rfl) (GUp.refl _) (.set (by simp) hall)
           · rw [decide_eq_true (by simpa using hre)]
             k_steps
             have hsr : Srt ((x :: tl).filter fun x => !(x.length == 1)) := hsrt.sublist (List.filter_sublist ..)
             have hfull := hsrt.full hx0
             have hlo' : 0 < ((x :: tl).filter fun x => x.length == 1).length := List.length_pos_iff.mpr h2s
             refine inner_N (p := []) ih (by with_reducible assumption) (by with_reducible assumption) B' D' K0 rfl (by show ScopeKind.function ≠ ScopeKind.module; decide) (by omega) (by show dp + 1 + 4 * n < 900; omega) hsr hre (fun _ hq => hfull _ (List.mem_filter.mp hq).1 rfl) (by decide) (hT.sub (.tail _ (.tail _ (.head _))) (.tail _ (.tail _ (.tail _ (.head _)))) fun q hq h1 h2 => by simp [rst_mem hq h1 h2]) (.head _) hr ?_
             intro g2 led2 h6 gens2 tk6 t6 q1' q2' X W T2 F7 N7 B7 D7 hT7 hsub hg1 hg2 hC
             have hXl := hC.len
             have hXl : (S ([] ++ X ++ cl [])).length ≤ 2000 := by rw [S_len]; simp only [cl, List.nil_append, if_true, List.append_nil]; omega
             have hXl2 : (S (X ++ cl [])).length ≤ 2000 := hXl
             have X7 := XB.keeps B7.stays
             have T7 := TB.keeps B7.stays
             k_sweep
             k_steps
             refine charset_N (cs := ((x :: tl).filter fun x => x.length == 1).flatten) hCS X7 T7 (by show dp + 1 < 897; omega) (by with_reducible assumption) (by with_reducible assumption) hT7 (by omega) (hsub _ (.tail _ (.head _)) (by k_ne) (by k_ne)) (by rw [hofl]; exact ho) (by omega) ?_
             intro h7 tk7 t7 p1' led7 F8 N8 T8 hsub2
             k_sweep
             have hlc : (S ([91] ++ encL ((x :: tl).filter fun x => x.length == 1).flatten ++ [93])).length ≤ 200 := by
               have := encL_len ((x :: tl).filter fun x => x.length == 1).flatten
               rw [S_len]; simp only [List.length_append, List.length_cons, List.length_nil]; omega
             k_steps
             rw [show PySem.Str.ofString "|" = S [124] from rfl, S_app, S_app, S_app, S_app]
             rw [show p ++ (X ++ cl []) ++ [124] ++ ([91] ++ encL ((x :: tl).filter fun x => x.length == 1).flatten ++ [93]) ++ cl p = p ++ (X ++ [124] ++ ([91] ++ encL ((x :: tl).filter fun x => x.length == 1).flatten ++ [93])) ++ cl p by simp [cl]]
             exact k g2 led7 _ gens2 _ _ p1' q2' _ _ T2 (Fr.grd F8 N8 B7 D7) T8 (fun q hq h1 h2 => hsub2 q (hsub q (by simp [rst_mem hq h1 h2]) h1 h2) h1) hg1 hg2 (.sets hfull h2s hC)
         · refine MidI.of (by with_reducible assumption) (by with_reducible assumption) ?_ (fun _ hq => .tail _ (.tail _ hq)) trivial
           intro q hq
           simp only [List.mem_cons, List.not_mem_nil, or_false] at hq
           rcases hq with rfl | rfl | rfl <;> rfl
     · refine MidI.of (by with_reducible assumption) (by with_reducible assumption) ?_ (fun _ hq => hq) trivial
       intro q hq
       simp only [List.mem_cons, List.not_mem_nil, or_false] at hq
       rcases hq with rfl | rfl | rfl <;> rfl
   clear F4 N4
   rintro s3 ⟨-, h4, tk4, u4, rfl, F4, N4⟩
   k_steps
   refine prefix_N X' T' hdp (by with_reducible assumption) (by with_reducible assumption) (.tail _ (.tail _ (.tail _ (.tail _ (.tail _ (.head _)))))) hS (by simp) (by rw [List.length_cons]; omega) (fun z hz => Nat.le_trans (hsrt.short z hz) (by decide)) fun h5 tk5 t5 a b ha hb hmin hmax F5 N5 => ?_
   k_sweep
   have hla : a.length ≤ 100 := hsrt.short a ha
   have hlb : b.length ≤ 100 := hsrt.short b hb
   have hpre : (S (lcp a b)).length ≤ 100 := by rw [S_len]; exact Nat.le_trans (lcp_len a b) hla
   generalize hq : lcp a b = q at hpre
   k_steps
   · have heq : (S (escL q)).length ≤ 200 := by rw [S_len] at hpre ⊢; have := escL_len q; omega
     rename (Fr _ _ _ _) => F6
     rename (News _ _ _ _) => N6
     refine escape_N X' T' hdp F6 N6 (by rw [S_len] at hpre; omega) fun h7 tk7 t7 F7 N7 => ?_
     k_sweep
     k_steps
     rename (Obj) => o1'
     rename (_ = Data.cell (some (Value.int _ _))) => d1'
     refine str_src (ws := x :: tl) (fun z => z.drop q.length) rfl (by with_reducible assumption) (by with_reducible assumption) (.tail _ (.tail _ (.tail _ (.tail _ (.tail _ (.head _)))))) hS (by rw [List.length_cons]; omega) ?turn ?fin
     case turn =>
       intro z t I oI C oC D m₂ ys h tk E' hz hC hx2 F N off ne
       have hzl : (S z).length ≤ 100 := by rw [S_len]; exact hsrt.short z hz
       k_steps
       refine LCg.CompEnd.intro (by with_reducible assumption) (by with_reducible assumption) _ (fun _ h => h) off (.inr ⟨_, .tail _ (.tail _ (.tail _ (.tail _ (.tail _ (.head _))))), rfl, _, rfl⟩) (StrEl.of ?_)
       rw [slice_from (by omega), Int.toNat_natCast, S_len]
     case fin =>
       intro gx ys hys
       k_steps
       have hq0 : q ≠ [] := by
         rintro rfl
         rename (_ ≠ (0 : Int)) => qz
         exact qz rfl
       have hall : ∀ z ∈ x :: tl, z.take q.length = q := fun z hz => by
         subst hq
         exact pre_between (lcp_left a b) (lcp_right a b) (hmin z hz) (hmax z hz)
       have hmd := msr_drop q.length (ws := x :: tl) fun z hz => len_of_take (hall z hz)
       have hql : 0 < q.length := List.length_pos_iff.mpr hq0
       have hqm : q.length * 1 ≤ q.length * (x :: tl).length := Nat.mul_le_mul_left _ (by rw [List.length_cons]; omega)
       refine inner_N (p := GRP) ih (by with_reducible assumption) (by with_reducible assumption) B' D' K0 rfl (by show ScopeKind.function ≠ ScopeKind.module; decide) (by omega) (by show dp + 1 + 4 * n < 900; omega) (hsrt.drop hall) (by simp) (fun q => by cases q) (by decide) (hT.sub (.tail _ (.head _)) (.tail _ (.tail _ (.head _))) fun q hq h1 h2 => by simp [rst_mem hq h1 h2]) (.head _) hys ?_
       intro g2 led2 h6 gens2 tk6 t6 q1' q2' X W T2 F8 N8 B7 D7 hT7 hsub hg1 hg2 hC
       have hXl := hC.len
       have hXl : (S (GRP ++ X ++ cl GRP)).length ≤ 2000 := by rw [grp_len]; omega
       have X7 := XB.keeps B7.stays
       have T7 := TB.keeps B7.stays
       k_sweep
       k_steps
       rw [S_app, S_app, S_app, show p ++ escL q ++ (GRP ++ X ++ cl GRP) ++ cl p = p ++ (escL q ++ (GRP ++ X ++ [41])) ++ cl p by simp [cl, GRP]]
       exact k g2 led2 _ gens2 _ _ q1' q2' _ _ T2 (Fr.grd F8 N8 B7 D7) hT7 (fun q hq h1 h2 => hsub q (by simp [rst_mem hq h1 h2]) h1 h2) hg1 hg2 (.pre q hq0 hall hC)
   · refine LCg.Assign_ListComp_U (F₀ := by k_asm) (by rfl) (by with_unfolding_all rfl) (by rfl) (by decide) (by rfl) (by decide) (by rfl) (by rfl) (by rfl) ?_
     k_steps
     refine str_src (ws := x :: tl) (fun z => z.reverse) rfl (by with_reducible assumption) (by with_reducible assumption) (.tail _ (.tail _ (.tail _ (.tail _ (.tail _ (.head _)))))) hS (by rw [List.length_cons]; omega) ?turn ?fin
     case turn =>
       intro z t I oI C oC D m₂ ys h tk E' hz hC hx2 F N off ne
       have hzl : (S z).length ≤ 100 := by rw [S_len]; exact hsrt.short z hz
       k_steps
       refine LCg.CompEnd.intro (by with_reducible assumption) (by with_reducible assumption) _ (fun _ h => h) off (.inr ⟨_, .tail _ (.tail _ (.tail _ (.tail _ (.tail _ (.head _))))), rfl, _, rfl⟩) (StrEl.of ?_)
       rw [slice_rev]
     case fin =>
       intro gx ys hys
       k_steps
       refine prefix_N (ws := (x :: tl).map fun z => z.reverse) X' T' hdp (by with_reducible assumption) (by with_reducible assumption) (.head _) hys (by simp) (by rw [List.length_map, List.length_cons]; omega) (fun z hz => by obtain ⟨y, hy, rfl⟩ := List.mem_map.mp hz; rw [List.length_reverse]; exact Nat.le_trans (hsrt.short y hy) (by decide)) fun h6 tk6 t6 a2 b2 ha2 hb2 hmin2 hmax2 F8 N8 => ?_
       k_sweep
       have hla2 : a2.length ≤ 100 := by obtain ⟨y, hy, rfl⟩ := List.mem_map.mp ha2; rw [List.length_reverse]; exact hsrt.short y hy
       have hsuf : (S (lcp a2 b2)).length ≤ 100 := by rw [S_len]; exact Nat.le_trans (lcp_len a2 b2) hla2
       generalize hq2 : lcp a2 b2 = q2 at hsuf
       k_steps
       · rename (Obj) => o1'
         rename (_ = Data.cell (some (Value.int _ _))) => d1'
         refine gen_strs (ws := x :: tl) (fun z => z.take (z.length - q2.length)) rfl (by show dp + 1 < recursionLimit; simp only [recursionLimit]; omega) rfl rfl (hCd.keeps B'.stays) T' (by with_reducible assumption) (by with_reducible assumption) (hT.sub (.tail _ (.head _)) (.tail _ (.tail _ (.head _))) fun q hq h1 h2 => by simp [rst_mem hq h1 h2]) hL176 (by decide)
           (.tail _ (.tail _ (.tail _ (.tail _ (.tail _ (.tail _ (.head _))))))) hl176 hS (by rw [List.length_cons]; omega) ?hit ?helt ?hk
         case hit =>
           k_steps
         case helt =>
           intro A' E' z t s₂ C cv m₂ hA hz hLC hn hm2 hled hg2
           have hc3 := hled _ (.tail _ (.tail _ (.tail _ (.tail _ (.tail _ (.head _)))))) (by k_ne)
           rw [S_len] at d1'
           exact cut_elt (c := L + 1 + 1 + 1) rfl rfl rfl rfl rfl hn hm2 ⟨o1', hc3, d1'⟩ (by rename (_ ≠ (0 : Int)) => qz; rw [S_len] at qz; omega) (Nat.le_trans (hsrt.short z hz) (by decide)) (by decide) (by decide) (by decide)
         case hk =>
           intro a9 h9 tk9 gs9 p2' led9 fp9 wr9 P9 St9 hb9 F9 N9 T9 hsub9 W9 hP9 hst9 hty9 ha9 hfp9 hwL9 hwg9 hwN9
           k_sweep
           k_steps
           refine sorted_gen (ws := (x :: tl).map fun z => z.take (z.length - q2.length)) W9 hty9 hst9 hfp9 ha9 (by rw [List.length_map, List.length_cons]; omega) hP9 (by with_reducible assumption) (by with_reducible assumption) hwL9 hwg9 hwN9 ?_
           intro D10 vs10 ss10 n10 h10 gens10 tk10 F10 N10 l10 hS10 hperm hsrt10 hgs1 hgs2 hgs3
           obtain ⟨ws2, rfl, hpw⟩ := perm_S hperm
           have hq0 : q2 ≠ [] := by
             rintro rfl
             rename (_ ≠ (0 : Int)) => qz
             exact qz rfl
           have hall : ∀ z ∈ x :: tl, z = z.take (z.length - q2.reverse.length) ++ q2.reverse := fun z hz => by
             refine suf_of ?_
             subst hq2
             exact pre_between (lcp_left a2 b2) (lcp_right a2 b2) (hmin2 _ (List.mem_map_of_mem hz)) (hmax2 _ (List.mem_map_of_mem hz))
           rw [show q2.length = q2.reverse.length by rw [List.length_reverse]] at hpw
           have hq0' : q2.reverse ≠ [] := by simpa using hq0
           have hmd := msr_take q2.reverse.length (ws := x :: tl) fun z hz => by have := congrArg List.length (hall z hz); rw [List.length_append] at this; omega
           have hql : 0 < q2.reverse.length := List.length_pos_iff.mpr hq0'
           have hqm : q2.reverse.length * 1 ≤ q2.reverse.length * (x :: tl).length := Nat.mul_le_mul_left _ (by rw [List.length_cons]; omega)
           have hmp := msr_perm hpw
           have hsr2 : Srt ws2 := Srt.of (sortedS_pair hsrt10) hpw (nodup_cut hsrt.nodup hall) (by rw [List.length_map]; exact hsrt.size) (fun y hy => by obtain ⟨z, hz, rfl⟩ := List.mem_map.mp hy; rw [List.length_take]; have := hsrt.short z hz; omega)
           have hne2 : ws2 ≠ [] := by rintro rfl; have := hpw.length_eq; simp at this
           k_sweep
           k_steps
           refine inner_N (p := GRP) ih (by with_reducible assumption) (by with_reducible assumption) B' D' K0 rfl (by show ScopeKind.function ≠ ScopeKind.module; decide) (by omega) (by show dp + 1 + 4 * n < 900; omega) hsr2 hne2 (fun q => by cases q) (by decide) (T9.sub (.tail _ T9.m52) (.tail _ T9.m176) fun q hq _ _ => .tail _ hq) (.head _) hS10 ?_
           intro g2 led2 h6 gens2 tk6 t6 q1' q2' X W T2 F8 N8 B7 D7 hT7 hsub hg1 hg2 hC
           have hXl := hC.len
           have hXl : (S (GRP ++ X ++ cl GRP)).length ≤ 2000 := by rw [grp_len]; omega
           have X7 := XB.keeps B7.stays
           have T7 := TB.keeps B7.stays
           k_sweep
           k_steps
           rw [slice_rev]
           have heq2 : (S (escL q2.reverse)).length ≤ 200 := by rw [S_len] at hsuf ⊢; have := escL_len q2.reverse; rw [List.length_reverse] at this; omega
           refine escape_N X7 T7 hdp (by with_reducible assumption) (by with_reducible assumption) (by rw [S_len] at hsuf; rw [List.length_reverse]; omega) fun h7 tk7 t7 F11 N11 => ?_
           k_sweep
           k_steps
           rw [S_app, S_app, S_app, show p ++ (GRP ++ X ++ cl GRP) ++ escL q2.reverse ++ cl p = p ++ ((GRP ++ X ++ [41]) ++ escL q2.reverse) ++ cl p by simp [cl, GRP]]
           refine k g2 led2 _ gens2 _ _ q1' q2' _ _ T2 (Fr.grd F11 N11 B7 D7) hT7 (fun q hq h1 h2 => hsub q (.tail _ (hsub9 q (by simp [rst_mem hq h1 h2]) h2)) h1 h2) (fun i hi => ?_) ?_ (.suf q2.reverse hq0' (fun z hz => ⟨_, hall z hz⟩) hpw hC)
           · have hgs1' : gens10.size = s.gens.size + 1 := by rw [hgs1]; exact Array.size_push ..
             refine (hg1 i (by show i < gens10.size; omega)).trans ((hgs2 i (Nat.ne_of_lt hi)).trans ?_)
             show (s.gens.push gs9)[i]? = s.gens[i]?
             rw [Array.getElem?_push, if_neg (Nat.ne_of_lt hi)]
           · have hgs1' : gens10.size = s.gens.size + 1 := by rw [hgs1]; exact Array.size_push ..
             refine GUp.via hgs1' (hgs3 fun y hy => ?_) hg1 hg2
             have hy' : (s.gens.push gs9)[s.gens.size]? = some y := hy
             rw [Array.getElem?_push_size] at hy'
             obtain rfl := Option.some.inj hy'
             exact hb9
       · refine wpAny_GeneratorExp_make rfl rfl (by decide) rfl rfl (by show dp + 1 < recursionLimit; simp only [recursionLimit]; omega) ?_ (fun _ => rfl)
         k_steps
         refine kla_eval rfl ?_
         refine lam_N (hCd.keeps B'.stays) T' (by with_reducible assumption) (by with_reducible assumption) (hT.sub (.tail _ (.head _)) (.tail _ (.tail _ (.head _))) fun q hq h1 h2 => by simp [rst_mem hq h1 h2]) rfl rfl hL176 ?_
         intro f7 c7 oc7 vs7 t7 ctv7 h7 tk7 p7 led7 F7 N7 hm7 hd7 hv7 T7 hq7 hc7 hsub7 hlt7
         have N8 : News g L h7 (_ :: (c7, oc7) :: (52, tabObj p1) :: (176, tabObj p7) :: (L + 1, o3) :: (L + 1 + 1, o2') :: (L + 1 + 1 + 1, o1) :: (l, listOf (.str (S x) tx :: vs2).toArray nl) :: rst led) := fun q hq => by
           rcases List.mem_cons.mp hq with rfl | hq
           · exact N7 _ (.head _)
           · refine N7 _ (.tail _ ?_)
             simp only [List.mem_cons] at hq
             rcases hq with rfl | rfl | rfl | rfl | rfl | rfl | rfl | hq
             · exact hm7
             · exact T7.m52
             · exact T7.m176
             · exact hsub7 _ (by simp) (by k_ne)
             · exact hsub7 _ (by simp) (by k_ne)
             · exact hsub7 _ (by simp) (by k_ne)
             · exact hsub7 _ (by simp) hl176
             · exact hsub7 _ (by simp [hq]) (off176 q hq)
         have hf52 : (∀ q ∈ (c7, oc7) :: (52, tabObj p1) :: (176, tabObj p7) :: (L + 1, o3) :: (L + 1 + 1, o2') :: (L + 1 + 1 + 1, o1) :: (l, listOf (.str (S x) tx :: vs2).toArray nl) :: rst led, q.1 < f7) := fun q hq => by
           refine hlt7 q ?_
           simp only [List.mem_cons] at hq
           rcases hq with rfl | rfl | rfl | rfl | rfl | rfl | rfl | hq
           · exact hm7
           · exact T7.m52
           · exact T7.m176
           · exact hsub7 _ (by simp) (by k_ne)
           · exact hsub7 _ (by simp) (by k_ne)
           · exact hsub7 _ (by simp) (by k_ne)
           · exact hsub7 _ (by simp) hl176
           · exact hsub7 _ (by simp [hq]) (off176 q hq)
         k_lt hf52
         have hLam := lam_intro (w := w) (base := base) (x := x) N8 (by
           refine ⟨⟨_, .head _, fun h e => ⟨_, _, _, _, e⟩⟩, ?_⟩
           clear k
           intro dq uq outq gq sq Qq Eq gg z t hdq hzq hzl Gq kq
           have hzS : 0 < (S z).length := by rw [S_len]; exact List.length_pos_iff.mpr hzq
           have hxS : 0 < (S x).length := by rw [S_len]; exact List.length_pos_iff.mpr hx0
           have Gf := Gq.full
           have hkl : ∀ q ∈ [(f7, kla_obj (PySem.Str.ofString "<lambda>") qualK _ _ _ _ _ c7 ctv7), (c7, oc7), (L + 1 + 1, o2')], sq.heap.get? q.1 = some q.2 := fun q hq => (Gq.led q hq).1
           refine wpAny_call ?_
           k_dflt (refine' enter_lam Gf XB TB ?k6 ?k7 ?k8 ?k9 ?kB ?_ ?c2 ?c3 ?c4 ?c5; (case k6 => exact .head _); (case k7 => exact ⟨c7, oc7, vs7, t7, rfl, (Gq.led _ (.tail _ (.head _))).1, hd7, hv7⟩); (case k8 => (show dq < _; simp only [recursionLimit]; omega)); (case k9 => exact rfl); (case kB => exact locs rfl); (case c2 => exact rfl); (case c3 => exact rfl); (case c4 => exact rfl); (case c5 => decide); k_whole)
           intro Lq hq1 hLq Fq Nq Bq Xq Tq hkq
           k_steps
           rw [item_head hzq hx0]
           exact kq _ _ hkq)
         clear N7
         k_sweep
         k_steps
         refine li_iter (by with_reducible assumption) (by with_reducible assumption) (by k_mem) ?_
         intro I hI' FI NI hIl
         k_lt hIl
         k_sweep
         k_steps
         k_dflt (refine' owit_iter ?F ?X ?I ?hs ?hf ?_; (case F => k_asm); (case X => k_asm); (case I => k_inst); (case hs => k_is); (case hf => k_is); k_whole)
         k_steps
         · rename (Fr g L _ _) => F9
           exact T'.nolimit.keeps F9.keep
         · rename (Fr g L _ _) => F9
           rename (News g L _ _) => N9
           rename (_ < _) => l2
           rename (f7 < _ ∧ _) => lD
           obtain ⟨iG, iD, iF, iC, i52, i176, iL1, iL2, iL3, il, iR⟩ := hIl
           obtain ⟨dF, dC, d52, d176, dL1, dL2, dL3, dl, dR⟩ := lD
           obtain ⟨fC, f52, f176, fL1, fL2, fL3, fl, fR⟩ := hf52
           have T9 := tabs_for N9 (p1 := p1) (p2 := p7) ⟨(.tail _ (.tail _ (.tail _ (.tail _ (.tail _ (.head _)))))), (.tail _ (.tail _ (.tail _ (.tail _ (.tail _ (.tail _ (.head _))))))), hT.t1, T7.t2, hT.q1.sub (fun q hq h1 h2 => (.tail _ (.tail _ (.tail _ (.tail _ (.tail _ (.tail _ (.tail _ (.tail _ (.tail _ (.tail _ (.tail _ (rst_mem hq h1 h2))))))))))))), hq7.sub fun q hq _ _ => by
             rw [List.mem_singleton] at hq
             subst hq
             exact (.tail _ (.tail _ (.tail _ (.tail _ (.head _)))))⟩
           refine genexpr_code_N rfl (hCd.keeps B'.stays) F9 N9 T9 hL176 (by decide) fun cv h12 tk12 p2' led2 F12 N12 T12 hsub12 hadr12 hk12 => ?_
           refine builtins_N rfl T' F12 ?_
           dsimp only
           intro h13 hn13 hs13
           rename ((((S q).length : Nat) : Int) = 0) => hq0
           have hq00 : q = [] := List.length_eq_zero_iff.mp (by rw [S_len] at hq0; omega)
           obtain ⟨kc, k0, k1, hgr1, hgr2⟩ := split_group hsrt.sorted (hsrt.full hx0) ha hb (hq.trans hq00)
           generalize hG : Array.push _ (GenState.fresh _) = G14
           generalize hO : Heap.push h13 _ = h14
           have hfull := hsrt.full hx0
           have hmtd : msr ((x :: tl).take kc) + msr ((x :: tl).drop kc) = msr (x :: tl) := by rw [← msr_append, List.take_append_drop]
           have hpos : ∀ ys : List (List Nat), ys ≠ [] → 0 < msr ys := fun ys hy => by
             cases ys with
             | nil => exact absurd rfl hy
             | cons z r => rw [msr_cons]; omega
           have ht1 : 0 < msr ((x :: tl).take kc) := hpos _ fun q => by have := congrArg List.length q; rw [List.length_take, List.length_nil] at this; omega
           have ht2 : 0 < msr ((x :: tl).drop kc) := hpos _ fun q => by have := congrArg List.length q; rw [List.length_drop, List.length_nil] at this; omega
           have hl52 : l ≠ 52 := by
             rintro rfl
             have q1 := (G.led _ hl).1
             have q2 := (G.led _ h52).1
             rw [q1] at q2
             cases q2
           refine args_nil ?_
           rw [show PySem.Str.ofString "|" = S [124] from rfl]
           refine (gen_setup (s4 := { s with heap := h12, toks := tk12 }) (keep0 := _ ++ ((L + 1, o3) :: (L + 1 + 1 + 1, o1) :: (l, listOf (.str (S x) tx :: vs2).toArray nl) :: rst led)) XB TB ih F12 N12 B' D' K0 rfl (by show ScopeKind.function ≠ ScopeKind.module; decide) T12 (hsub12 _ (.head _) (Nat.ne_of_gt i176)) (hsub12 _ (.tail _ (.head _)) (Nat.ne_of_gt (Nat.lt_trans d176 l2))) (hsub12 _ (.tail _ (.tail _ (.head _))) (Nat.ne_of_gt d176))
             hLam (fun q hq => List.mem_append_left _ hq) hS (List.mem_append_right _ (.tail _ (.tail _ (.head _)))) k0 k1 hsrt.size hgr1 hgr2 (fun z hz => ⟨hfull z hz, hsrt.short z hz⟩) ?kp ⟨Nat.ne_of_gt i52, Nat.ne_of_gt i176⟩ ⟨Nat.ne_of_gt (Nat.lt_trans d52 l2), Nat.ne_of_gt (Nat.lt_trans d176 l2)⟩ ⟨Nat.ne_of_gt d52, Nat.ne_of_gt d176⟩ (Nat.ne_of_lt iG) (Nat.ne_of_lt iD) (Nat.ne_of_lt l2)
             (by show dp + 1 + 1 + 4 * n < 900; omega) (by omega) (by omega) (hsrt.sublist (List.take_sublist ..)) (hsrt.sublist (List.drop_sublist ..)) ⟨rfl, rfl, rfl, rfl, rfl, rfl, rfl, rfl, rfl⟩ hn13 hs13 hO hG).2.2 _ _ _ _ ?kk
           case kp =>
             intro q hq
             have fin : ∀ y : Nat, ∀ o : Obj, (y, o) ∈ led2 → y ≠ 52 → y ≠ 176 → y < I → y < _ → _ := fun y o h1 h2 h3 h4 h5 => (⟨h1, h2, h3, Nat.ne_of_lt h4, Nat.ne_of_lt (Nat.lt_trans h5 l2)⟩ : (y, o) ∈ led2 ∧ y ≠ 52 ∧ y ≠ 176 ∧ y ≠ I ∧ y ≠ _)
             rcases List.mem_append.mp hq with hq | hq
             · simp only [List.mem_cons, List.not_mem_nil, or_false] at hq
               rcases hq with rfl | rfl | rfl
               · exact fin _ _ (hsub12 _ (.tail _ (.tail _ (.tail _ (.head _)))) (Nat.ne_of_gt f176)) (Nat.ne_of_gt f52) (Nat.ne_of_gt f176) iF dF
               · exact fin _ _ (hsub12 _ (.tail _ (.tail _ (.tail _ (.tail _ (.head _))))) hc7.2) hc7.1 hc7.2 iC dC
               · exact fin _ _ (hsub12 _ (.tail _ (.tail _ (.tail _ (.tail _ (.tail _ (.tail _ (.tail _ (.tail _ (.head _))))))))) (Nat.ne_of_gt (by omega))) (Nat.ne_of_gt (by omega)) (Nat.ne_of_gt (by omega)) iL2 dL2
             · simp only [List.mem_cons] at hq
               rcases hq with rfl | rfl | rfl | hq
               · exact fin _ _ (hsub12 _ (.tail _ (.tail _ (.tail _ (.tail _ (.tail _ (.tail _ (.tail _ (.head _)))))))) (Nat.ne_of_gt (by omega))) (Nat.ne_of_gt (by omega)) (Nat.ne_of_gt (by omega)) iL1 dL1
               · exact fin _ _ (hsub12 _ (.tail _ (.tail _ (.tail _ (.tail _ (.tail _ (.tail _ (.tail _ (.tail _ (.tail _ (.head _)))))))))) (Nat.ne_of_gt (by omega))) (Nat.ne_of_gt (by omega)) (Nat.ne_of_gt (by omega)) iL3 dL3
               · exact fin _ _ (hsub12 _ (.tail _ (.tail _ (.tail _ (.tail _ (.tail _ (.tail _ (.tail _ (.tail _ (.tail _ (.tail _ (.head _))))))))))) hl176) hl52 hl176 il dl
               · exact fin _ _ (hsub12 _ (.tail _ (.tail _ (.tail _ (.tail _ (.tail _ (.tail _ (.tail _ (.tail _ (.tail _ (.tail _ (.tail _ hq))))))))))) (off176 q hq)) (off52 q hq) (off176 q hq) (Nat.lt_trans (Nat.lt_succ_of_lt (offL q hq)) iL1) (Nat.lt_trans (Nat.lt_succ_of_lt (offL q hq)) dL1)
           case kk =>
             intro h15 gens15 tk15 t15 X1 W1 X2 W2 g15 r15 a15 b15 T15 F15 N15 B15 D15 hT15 hkeep15 hgo15 hgu15 hC1 hC2
             have hXl : (S (X1 ++ [124] ++ X2)).length ≤ 3000 := by
               have q1 := hC1.len
               have q2 := hC2.len
               rw [S_len]
               simp only [List.length_append, List.length_cons, List.length_nil]
               omega
             have X15 := XB.keeps B15.stays
             have T15' := TB.keeps B15.stays
             clear F12 N12 F9 N9
             k_sweep
             k_steps
             rw [S_app, S_app]
             exact k g15 r15 _ gens15 _ _ a15 b15 _ _ T15 (Fr.grd (by with_reducible assumption) N15 B15 D15) hT15 (fun q hq h1 h2 => hkeep15 q (List.mem_append_right _ (.tail _ (.tail _ (.tail _ (rst_mem hq h1 h2)))))) hgo15 hgu15 (cx_grp k0 k1 hfull hgr1 hgr2 hC1 hC2)
end
end Mine
end

section
open PySem PySem.W PyProof.Rows
set_option Elab.async false
set_option maxRecDepth 100000
namespace Mine
theorem same_sorted {a b : List (List Nat)} (h1 : a.Pairwise fun x y => ¬ y < x) (h2 : b.Pairwise fun x y => ¬ y < x) (hp : a.Perm b) : a = b := by
  refine hp.eq_of_pairwise (fun x y _ _ l1 l2 => ?_) h1 h2
  exact List.le_antisymm l1 l2
section
variable {prog : Program} {w : World} {A : Around} {s : Shared} {l b : Addr} {vs us : List Value} {W : List (List Nat)} {Q E : Value → Shared → Prop}
theorem ne_same (hl : s.heap.IsList l vs.toArray) (hb : s.heap.IsList b us.toArray) (h1 : StrsAre vs (W.map S)) (h2 : StrsAre us (W.map S)) (hu : A.units < cLine) (h : Q (.bool false) s) : wpAny (model prog w) A (compareOp .NotEq (.ref l) (.ref b)) Q E s := by
  have e1 := strsAre_len h1
  have e2 := strsAre_len h2
  refine PySem.SeqAt.RcNeAt.lists hl hb (e := fun _ => true) (by simp [e1, e2]) hu (fun j h3 h4 => ?_) prog w E Q ?_
  · have hj : j < W.length := by simpa [e1] using h3
    obtain ⟨t1, q1⟩ := strs_item h1 hj
    obtain ⟨t2, q2⟩ := strs_item h2 hj
    have r1 : vs.toArray[j] = .str (S W[j]) t1 := by
      have := Array.getElem?_eq_getElem h3
      rw [List.getElem?_toArray, q1] at this
      exact (Option.some.inj this).symm
    have r2 : us.toArray[j] = .str (S W[j]) t2 := by
      have := Array.getElem?_eq_getElem h4
      rw [List.getElem?_toArray, q2] at this
      exact (Option.some.inj this).symm
    rw [r1, r2]
    have := PySem.SeqAt.EqAt.str_str (A := A.in1) (s := s) (S W[j]) t1 (S W[j]) t2
    rwa [beq_self_eq_true] at this
  · have : ((List.range vs.toArray.size).all fun _ => true) = true := by simp
    rw [this]
    exact h
theorem eq_empty (hl : s.heap.IsList l #[]) (hb : s.heap.IsList b #[]) (hu : A.units < cLine) (h : Q (.bool true) s) : wpAny (model prog w) A (compareOp .Eq (.ref l) (.ref b)) Q E s :=
  PySem.SeqAt.RcAt.lists hl hb (e := fun _ => true) rfl hu (fun j h3 _ => absurd h3 (Nat.not_lt_zero _)) prog w E Q h
end
theorem law_eq {ks ks2 sw W l Wf Ws : List (List Nat)} {ws : List (List Nat)} {f : List Nat → List Nat} (hC : W.Perm sw) (hp : sw.Perm ks) (hn : ks.Nodup) (hk : ∀ x, x ∈ ks ↔ x ∈ ws) (hn2 : ks2.Nodup) (hk2 : ∀ x, x ∈ ks2 ↔ x ∈ ws) (hl : l.Perm ks2)
   (h1 : Wf.Perm (W.map f)) (h2 : Ws.Perm (l.map f)) (s1 : Wf.Pairwise fun x y => ¬ y < x) (s2 : Ws.Pairwise fun x y => ¬ y < x) : Wf = Ws := by
  have e : ks.Perm ks2 := (List.perm_ext_iff_of_nodup hn hn2).mpr fun x => (hk x).trans (hk2 x).symm
  exact same_sorted s1 s2 (h1.trans ((((hC.trans hp).trans e).trans hl.symm).map f |>.trans h2.symm))
theorem range_size (n : Nat) : Builtin.Range.rangeSize 0 (n : Int) 1 = (n : Int) := by
  unfold Builtin.Range.rangeSize
  split <;> (try split) <;> (try simp) <;> omega
theorem range_small (n : Nat) (h : n ≤ 1000) : Builtin.Range.small 0 (n : Int) 1 = true := by
  unfold Builtin.Range.small
  rw [range_size]
  unfold Builtin.Range.rangeFitsLong
  simp only [Bool.and_eq_true, decide_eq_true_eq]
  simp
  omega
theorem fr_new {g h h' : Heap} {L D : Addr} {m : PySem.Str → Option Value} {led : List (Addr × Obj)} {o : Obj} (F : Fr g L h m) (N : News g L h led) (hn : h.get? D = none) (old : ∀ b o, h.get? b = some o → h'.get? b = some o) (hD : h'.get? D = some o) : Fr g L h' m ∧ News g L h' ((D, o) :: led) := by
  refine ⟨F.kept old, fun q hq => ?_⟩
  rcases List.mem_cons.mp hq with rfl | hq
  · refine ⟨hD, fun e => ?_, ?_⟩
    · obtain ⟨o, es, ep, ho, _⟩ := F.ns
      have e : D = L := e
      rw [← e, hn] at ho
      cases ho
    · cases q : g.get? D with
      | none => rfl
      | some o => rw [F.keep _ _ q] at hn; cases hn
  · exact ⟨old _ _ (N q hq).1, (N q hq).2⟩
theorem none_of_push {h : Heap} {D : Addr} {o : Obj} (hn : (h.push o).get? D = none) : h.get? D = none := by
  cases q : h.get? D with
  | none => rfl
  | some o' => rw [Heap.get?_push_of_some _ q] at hn; cases hn
end Mine
end

section
open PySem PySem.W PyProof.Rows
set_option Elab.async false
namespace Mine
/-- the ending of a law that has hidden tables and leaves bare generators -/
theorem post_bare {M : Model} {A : Around} {cd : Code} {s s₁ : Shared} {cw : ClaimW} {cl : PySem.Str → Option Addr} {mean : ExcName → Option Value} {args : List WData} {tabs : List (Addr × Addr)} (hT : TabsAt tabs s₁.heap) (hr : ∀ a x, cw.raises a x = false)
    (h : codeAny M A cd (fun r s' => AllBare s'.gens ∧ (GoodW cw cl mean args { s₁ with heap := ghostOf s₁.heap tabs } r { s' with gens := #[] } ∧ GrownAll tabs s'.heap)) s) : codeAny M A cd (GoodWG cw cl mean args s₁) s := by
  refine codeAny_mono h fun r s' x => ?_
  obtain ⟨hb, ⟨hc, hk, hos, -⟩, hgr⟩ := x
  dsimp only at hc hk hos
  have tab : ∀ b o, s₁.heap.get? b = some o → b ∈ tabs.map (·.2) → o = tabObj #[] ∧ isCodeTable s₁.heap b ∧ ∃ ps, s'.heap.get? b = some (tabObj ps) := by
    intro b o e m
    obtain ⟨q, hq, rfl⟩ := List.mem_map.mp m
    obtain ⟨t1, t2⟩ := hT q hq
    exact ⟨Option.some.inj (e.symm.trans t2), (t1.tab t2).isCodeTable, hgr.get q hq⟩
  have rest : ∀ b o, s₁.heap.get? b = some o → b ∉ tabs.map (·.2) → s'.heap.get? b = some o := fun b o e m => hk b o (ghost_ne e m)
  have hold : OldK s₁.heap s'.heap := by
    constructor
    · intro b o e
      by_cases m : b ∈ tabs.map (·.2)
      · obtain ⟨rfl, t, ps, e2⟩ := tab b o e m
        refine .inr (.inl ⟨t, rfl, #[], ps, rfl, ?_⟩)
        rw [Array.empty_append]
        exact e2
      · exact .inl (rest b o e m)
    · intro b o e
      by_cases m : b ∈ tabs.map (·.2)
      · obtain ⟨_, _, ps, e2⟩ := tab b o e m
        exact ⟨_, e2⟩
      · exact ⟨o, rest b o e m⟩
  refine ⟨?_, hold, hos, hb⟩
  rcases hc with ⟨v, d, as, r1, r2, r3, r4, r5⟩ | ⟨e, ob, x, _, _, _, r4, _⟩
  · refine .inl ⟨v, d, as, r1, r2, r3, r4, fun u => ⟨(r5 u).1, fun a ha => ?_⟩⟩
    cases e : s₁.heap.get? a with
    | none => rfl
    | some o =>
      by_cases m : a ∈ tabs.map (·.2)
      · obtain ⟨_, _, ps, e2⟩ := tab a o e m
        exact absurd ha (readsW_apart e2 rfl r3)
      · have e3 := (r5 u).2 a ha
        have e4 : (ghostOf s₁.heap tabs).get? a = some o := ghost_ne e m
        cases e3.symm.trans e4
  · rw [hr] at r4
    cases r4
theorem bare_of {gens : Array GenState} {a : Array GenState} (h0 : a = #[]) (h : GUp a gens) : AllBare gens := by
  subst h0
  intro y hy
  obtain ⟨i, hi, rfl⟩ := Array.mem_iff_getElem.mp hy
  exact h.2 i _ (Nat.zero_le _) (Array.getElem?_eq_getElem hi)
theorem fr_back {g g' h : Heap} {L : Addr} {m : PySem.Str → Option Value} (F : Fr g' L h m) (T : KtsTurn [] g g') : Fr g L h m :=
  ⟨F.ns, fun b o e => F.keep b o (T.other b o e (fun m => nomatch m)), Nat.le_trans (Nat.le_of_eq T.size.symm) F.above⟩
end Mine
end

section
open PySem PySem.W PyProof.Rows
set_option Elab.async false
set_option maxRecDepth 100000
set_option maxHeartbeats 8000000
set_option pp.maxSteps 1500
set_option pp.deepTerms.threshold 12
namespace Mine
local macro_rules | `(tactic| kn_posts) => do `(tactic| refine Mine.post_bare $(Lean.mkIdent `hT9) (fun _ _ => rfl) ?_)
local macro_rules | `(tactic| size_fits) => `(tactic| exact Nat.le_of_ble_eq_true rfl)
local macro_rules | `(tactic| walk_at "callWith") => `(tactic| ((try dsimp only); (with_reducible show wpAny _ _ (callWith _ (Value.builtin "list.append") (_ :: _) _ _) _ _ _); refine callWith_method1 ?_))
local macro_rules | `(tactic| k_steps) => `(tactic| repeat' ((fail_if_success (with_reducible show wpAny _ _ (exec (Stmt.While _ _ _ _) _) _ _ _)); (fail_if_success (with_reducible show wpAny _ _ (exec (Stmt.For _ _ _ _ _) _) _ _ _)); (fail_if_success (with_reducible show wpAny _ _ (eval (Expr.ListComp _ _ _ _) _) _ _ _)); (fail_if_success (with_reducible show wpAny _ _ (compareOp CmpOp.NotEq (Value.ref _) (Value.ref _)) _ _ _)); (fail_if_success (with_reducible show wpAny _ _ (compareOp CmpOp.Eq (Value.ref _) (Value.ref _)) _ _ _)); (fail_if_success (with_reducible show wpAny _ _ (call (Value.type "range") _) _ _ _)); (fail_if_success (with_reducible show wpAny _ _ (call (Value.ref 187) _ _) _ _ _)); (fail_if_success (with_reducible show wpAny _ _ (call (Value.ref 199) _) _ _ _)); (fail_if_success (with_reducible show wpAny _ _ (call (Value.type "set") _) _ _ _)); (fail_if_success (with_reducible show wpAny _ _ (call (Value.builtin "sorted") _) _ _ _)); first | (k_unfold; (try dsimp only)) | (k_end; wrow_close) | walk1 | (dsimp only; walk1) | (leave1; walk_say "STEP leave1"; try dsimp only) | fail "no step"))
theorem eq_true {e : PySem.Spec.Ctx} (h : e.res = some (.bool true)) : (PySem.Spec.Tm.eq .res (.lit (.bool true))).value e = some (.bool true) := PyProof.Rows.v_eq_bool (k := true) (l := true) (PyProof.Rows.v_res h) PyProof.Rows.v_lit
local macro_rules | `(tactic| tm_at "eq") => `(tactic| (with_reducible apply eq_true; rfl))
theorem law_holds : PySem.Challenge.rw_fv0020_03.Holds := by
  exact Mine.hd (by
    w_strict (k_go0; (all_goals try k_fold)
              rename_i wcell _ XG TG BG _ _ _ lG
              k_steps
              rename (Fr _ _ _ _) => F0
              rename (News _ _ _ _) => N0
              obtain ⟨z, tz, u0, hz3, hz9, F1⟩ := fr_law F0 rfl rfl rfl
              clear F0
              refine for_go F1 rfl ?hev
              case hev =>
                k_steps
                rename (Fr _ _ _ _) => F2
                rename (News _ _ _ _) => N2
                rename (IntsAre _ _) => hI2
                have hI2l := IntsAre.length hI2
                simp only [List.length_append, List.length_cons, List.length_nil, List.length_take, List.length_drop] at hI2l
                refine told_go F2 N2 hI2 ?turn ?done
                case turn =>
                  clear F2 N2
                  intro i xv xt u vs' n ws h₁ tk₁ I oI hi hs hl hw F3 N3 hlt
                  dsimp only at hlt
                  have hvl := strsAre_len hs
                  k_steps
                  rename (Fr _ _ _ _) => F4
                  rename (News _ _ _ _) => N4
                  refine While_inv (NumJ _ _ z tz _) F4 N4 (NumJ.start rfl rfl rfl rfl rfl) ?turn2
                  case turn2 =>
                    clear F4 N4
                    rintro n2 m2 led2 h2 tk2 F5 N5 ⟨u2, k2, tk3, y2, ty2, rfl, hk0, hk1, hyl, hy9, rfl, rfl⟩
                    have hzS : (S z).length = 3 := by rw [S_len]; exact hz3
                    have hy4 : y2.length ≤ 4 := by omega
                    have hyS : (S y2).length ≤ 4 := by rw [S_len]; omega
                    have hvs : vs'.toArray.size ≤ 100 := by simp only [List.size_toArray]; omega
                    k_steps
                    · dsimp only
                      refine item_str_fmod (by decide) (by rw [hzS]; decide) (by rw [hzS]; decide) ?_
                      intro _
                      k_steps
                      exact NumJ.step (by with_reducible assumption) (by with_reducible assumption) hz3 hz9 hk0 hk1 (by with_reducible assumption) hyl hy9 rfl rfl rfl rfl rfl
                    · exact ToldJ.step (by with_reducible assumption) (by with_reducible assumption) hs hl hw hy4 hy9 rfl rfl rfl
                case done =>
                  clear F2 N2
                  intro u vs' n ws h₁ tk₁ hs hl hw F3 N3
                  have hvl := strsAre_len hs
                  replace wcell : _ = Data.cell none := wcell
                  k_steps
                  rename (Fr _ _ _ _) => F4
                  rename (News _ _ _ _) => N4
                  have hne : ws ≠ [] := by
                    rintro rfl
                    simp only [List.length_nil] at hl
                    omega
                  refine ropt_N (nl := n) XG TG (inner_spec XG TG (charset_spec _) codeHd 61) F4 N4 BG ktsDicts_nil KtsTurn.refl rfl (by show ScopeKind.function ≠ ScopeKind.module; decide) (by decide) (by omega) (by omega) (fun y hy => (hw y hy).1) hne (p1 := #[]) (p2 := #[]) ?hT ?hl hs ?kont
                  case hl => exact .head _
                  case hT => exact ⟨by simp, by simp, trivial, trivial, .inl rfl, .inl rfl⟩
                  case kont =>
                    intro g2 led2 h2 gens2 tk2 d2 t2 p1' p2' ks sw X W T2 F5 N5 B5 D5 hT5 hsub hg1 hg2 hC hp hnd hks
                    k_sweep
                    have X5 := XG.keeps B5.stays
                    have T5 := TG.keeps B5.stays
                    have N6 : News g2 _ h2 [_, _, (52, tabObj p1'), (176, tabObj p2')] := fun q hq => by
                      simp only [List.mem_cons, List.not_mem_nil, or_false] at hq
                      rcases hq with rfl | rfl | rfl | rfl
                      · exact N5 _ (hsub _ (.head _) (by k_ne) (by k_ne))
                      · exact N5 _ (hsub _ (.tail _ (.tail _ (.head _))) (by k_ne) (by k_ne))
                      · exact N5 _ hT5.m52
                      · exact N5 _ hT5.m176
                    clear N5
                    have hwl : ws.length ≤ 10 := by omega
                    have hkl : ks.length ≤ 10 := Nat.le_trans (nodup_len hnd fun x hx => (hks x).mp hx) hwl
                    have hsl : sw.length ≤ 10 := by rw [hp.length_eq]; exact hkl
                    have hsw : ∀ x ∈ sw, x.length ≤ 5 := fun x hx => (hw x ((hks x).mp (hp.mem_iff.mp hx))).1
                    have hms := msr_le hsw
                    have hXl := hC.len
                    have hXl2 : (([120] ++ ([40] ++ X ++ [41])) ++ [121] : List Nat).length ≤ 1000 := by
                      simp only [List.length_append, List.length_cons, List.length_nil]
                      omega
                    have hXl3 : (S (([120] ++ ([40] ++ X ++ [41])) ++ [121])).length ≤ 1000 := by rw [S_len]; exact hXl2
                    k_steps
                    rename (Fr _ _ _ _) => F6
                    rename (News _ _ _ _) => N6
                    refine unf_N X5 T5 F6 N6 (by decide) (Nat.le_trans hXl2 (by decide)) (hC.whole (by omega) fun x hx => Nat.le_trans (hsw x hx) (by decide)) ?kont2
                    case kont2 =>
                      intro h3 tk3 D vs3 n3 F7 N7 hne7 hs3
                      have q1 := hne7 _ (.head _)
                      have q2 := hne7 _ (.tail _ (.head _))
                      have q3 := hne7 _ (.tail _ (.tail _ (.head _)))
                      have q4 := hne7 _ (.tail _ (.tail _ (.tail _ (.head _))))
                      dsimp only at q1 q2 q3 q4
                      k_sweep
                      k_steps
                      rename (Fr _ _ _ _) => F8
                      rename (News _ _ _ _) => N8
                      have hW0 := hC.perm
                      have hWl : W.length ≤ 10 := by rw [hW0.length_eq]; exact hsl
                      refine sortedList_N F8 N8 (.head _) hs3 (by rw [List.length_map]; omega) fun D9 vs9 Wf n9 h9 tk9 d9 F9 N9 hD9 hS9 hp9 hW9 => ?_
                      k_lt hD9
                      k_sweep
                      k_steps
                      rename (Fr _ _ _ _) => F9
                      rename (News _ _ _ _) => N9
                      refine comp_set (fun z => [120] ++ z ++ [121]) F9 rfl (by decide) rfl (by decide) rfl rfl ?iter
                      case iter =>
                        k_steps
                        rename (Fr _ _ _ _) => F9
                        rename (News _ _ _ _) => N9
                        refine set_N (ws := ws) (nl := n) rfl F9 N9 (by simp) hs (by unfold scanBound; omega) fun D10 o10 ks2 h10 tk10 F10 N10 hD10 hO10 hnd2 hks2 => ?_
                        k_lt hD10
                        k_sweep
                        k_steps
                        have hks2l : ks2.length ≤ 10 := Nat.le_trans (nodup_len hnd2 fun x hx => (hks2 x).mp hx) hwl
                        have hks2n : ks2 ≠ [] := by
                          obtain ⟨x, hx⟩ := List.exists_mem_of_ne_nil _ hne
                          exact List.ne_nil_of_mem ((hks2 x).mpr hx)
                        rename (Fr _ _ _ _) => F10
                        rename (News _ _ _ _) => N10
                        refine ⟨D10, o10, ks2, _, _, rfl, F10, N10, .head _, hO10, hks2n, by omega, ?elt, ?fin⟩
                        case elt =>
                          intro C z t s₃ m₃ E' hz hns hm
                          exact xy_elt rfl rfl rfl hns hm (Nat.le_trans (hw z ((hks2 z).mp hz)).1 (by decide))
                        case fin =>
                          intro D11 ys11 l11 n11 h11 tk11 d11 F11 N11 hne11 hys11 hl11
                          simp only [List.forall_mem_cons] at hne11
                          k_sweep
                          k_steps
                          rename (Fr _ _ _ _) => F12
                          rename (News _ _ _ _) => N12
                          refine sortedList_N F12 N12 (.head _) hys11 (by rw [List.length_map, hl11.length_eq]; omega) fun D13 vs13 Ws n13 h13 tk13 d13 F13 N13 hD13 hS13 hp13 hW13 => ?_
                          k_lt hD13
                          obtain rfl := law_eq hW0 hp hnd hks hnd2 hks2 hl11 hp9 hp13 hW9 hW13
                          k_sweep
                          k_steps
                          rename (Fr _ _ _ _) => F14
                          rename (News _ _ _ _) => N14
                          refine ne_same (PySem.IsL.isList (n := n9) (N14.get (by simp))) (PySem.IsL.isList (n := n13) (N14.get (by simp))) hS9 hS13 (by show callerA.units + 3 < cLine; decide) ?_
                          k_steps
                          rename (Fr _ _ _ _) => F15
                          rename (News _ _ _ _) => N15
                          rename (_ = Data.cell (some _)) => hcf
                          have hfl : (W.map fun z => [120] ++ z ++ [121]).length ≤ 1000 := by rw [List.length_map]; omega
                          have hfz : ∀ y ∈ W.map (fun z => [120] ++ z ++ [121]), y.length ≤ 1000 := by
                            intro y hy
                            obtain ⟨x, hx, rfl⟩ := List.mem_map.mp hy
                            have := hsw x (hW0.mem_iff.mp hx)
                            simp only [List.length_append, List.length_cons, List.length_nil]
                            omega
                          have hsn : sw.Nodup := hp.nodup_iff.mpr hnd
                          have hNP : NoPre (W.map fun z => [120] ++ z ++ [121]) := noPre_of (hC.ord hsn) fun x hx => (hw x ((hks x).mp (hp.mem_iff.mp (hW0.mem_iff.mp hx)))).2
                          have hvs3 := strsAre_len hs3
                          have hsz3 : vs3.toArray.size = (W.map fun z => [120] ++ z ++ [121]).length := by rw [List.size_toArray]; exact hvs3
                          refine comp_none rfl (by decide) rfl (by decide) rfl rfl (by decide) rfl (by intro _ _; rfl) ?iter2
                          case iter2 =>
                            k_steps
                            rename (Fr _ _ _ _) => F16
                            rename (News _ _ _ _) => N16
                            refine call_range_1 ?_
                            dsimp only
                            refine ⟨_, (W.map fun z => [120] ++ z ++ [121]).length, _, _, _, FV (W.map fun z => [120] ++ z ++ [121]), rfl, IsRange.new _ _ _ _ _ _ _, range_small _ hfl, range_size _, ?tst, ?slc, ?fin2⟩
                            case tst =>
                              intro C
                              exact test_piece (c := _) (Fd := D) (vs := vs3) ⟨rfl, rfl, rfl, rfl, rfl⟩ ⟨_, Heap.get?_push_of_some _ (N16.get (by simp)), hcf⟩ (PySem.IsL.isList (n := n3) (Heap.get?_push_of_some _ (N16.get (by simp)))) hs3 hfl hfz hNP rfl
                            case slc =>
                              intro C
                              exact slice_piece (c := _) (Fd := D) (vs := vs3) ⟨rfl, rfl, rfl, rfl, rfl⟩ ⟨_, Heap.get?_push_of_some _ (N16.get (by simp)), hcf⟩ (PySem.IsL.isList (n := n3) (Heap.get?_push_of_some _ (N16.get (by simp)))) hs3 hfl
                            case fin2 =>
                              intro D20 h20 tk20 hn20 hk20 hD20
                              obtain ⟨F20, N20⟩ := fr_new F16 N16 (none_of_push hn20) (fun b o e => hk20 b o (Heap.get?_push_of_some _ e)) hD20
                              k_sweep
                              k_steps
                              rename (Fr _ _ _ _) => F21
                              rename (News _ _ _ _) => N21
                              refine eq_empty (PySem.IsL.isList (n := 0) (N21.get (by simp))) (PySem.IsL.isList (n := 0) (N21.get (by simp))) (by show callerA.units + 3 < cLine; decide) ?_
                              rename (Shared.gens _ = #[]) => hgens
                              refine ⟨bare_of hgens hg2, goodW_bool (fr_back F21 T2) rfl (raisesW_false (by wrow_none_raised)) (by wrow_post) rfl, ?_⟩
                              exact ⟨GrownAt.of (ps := p1') N21 (by simp), GrownAt.of (ps := p2') N21 (by simp), trivial⟩))
end Mine
end

theorem PySem.Challenge.cw_fv0020_03_holds : PySem.Challenge.rw_fv0020_03.Holds := by
  exact Mine.law_holds
