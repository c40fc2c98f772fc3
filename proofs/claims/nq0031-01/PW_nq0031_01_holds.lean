import PyProof.Rows.All
import Wide.All
import OpenK.AllK
import Wide.FinOn
import PySem.Challenge.RW_nq0031_01
set_option Elab.async false
set_option linter.unusedVariables false
set_option linter.deprecated false
section
namespace Mine
theorem tn7a {k : Int} {n : Nat} (h : k < 0 + (((n : Int) - 0).toNat : Int)) (hn : n ≤ 4) : k.toNat ≤ 7 := by omega
theorem tn7b {k : Int} {n : Nat} (h : k < 0 + (((n : Int) + 1 - 0).toNat : Int)) (hn : n ≤ 4) : k.toNat ≤ 7 := by omega
theorem mila {k : Int} {n : Nat} (h : k < 0 + (((n : Int) - 0).toNat : Int)) (hn : n ≤ 4) : k ≤ 1000000 := by omega
theorem milb {k : Int} {n : Nat} (h : k < 0 + (((n : Int) + 1 - 0).toNat : Int)) (hn : n ≤ 4) : k ≤ 1000000 := by omega
theorem le4z {i : Nat} {z k : Int} (h : k < 0 + ((z - 0).toNat : Int)) (hz : z = -1 + (i : Int)) (hi : i < ((4 : Int) - -1).toNat) : k ≤ 4 := by omega
theorem ltpl {k : Int} {n : Nat} (h : k < -(n : Int) + (((n : Int) - -(n : Int)).toNat : Int)) : k < n := by omega
theorem pospl {k : Int} {n : Nat} (h1 : -(n : Int) ≤ k) (h2 : k < -(n : Int) + (((n : Int) - -(n : Int)).toNat : Int)) : 0 < n := by omega
theorem nepl {k : Int} {n : Nat} (h1 : -(n : Int) ≤ k) (h2 : k < -(n : Int) + (((n : Int) - -(n : Int)).toNat : Int)) : (n : Int) ≠ 0 := by omega
end Mine
end
section
open PySem PySem.W PyProof.Rows
namespace Mine
set_option maxRecDepth 100000 in
set_option maxHeartbeats 8000000 in
open_top hd for PySem.Challenge.rw_nq0031_01
end Mine
end
section
open PySem PySem.W PyProof.Rows PySem.Calls
set_option maxRecDepth 100000
namespace Mine
theorem fill : Challenge.rw_nq0031_01 = Challenge.rw_nq0031_01 ∧ Mine.hd.heap_39 = Mine.hd.heap_39 := by k_with_none; k_fill; exact ⟨rfl, rfl⟩

abbrev Ar (dp un : Nat) (gd : Option (List Code)) (outer : List Env) : Around := { handled := none, depth := dp, frames := some outer, guards := gd, units := un }

/-- what a called def hands back: a value of the wanted kind, and everything that stood still stands -/
def Fin (post : Value → Prop) (s : Shared) (v : Value) (s' : Shared) : Prop := (∃ h' tk', s' = { s with heap := h', toks := tk' } ∧ s.heap.StaysIn h') ∧ post v

theorem Fin.intro {post : Value → Prop} {s : Shared} {v : Value} {h' : Heap} {tk' : Nat} {L : Addr} {m : Str → Option Value} (F : Fr s.heap L h' m) (hp : post v) : Fin post s v { s with heap := h', toks := tk' } := ⟨⟨_, _, rfl, F.keep⟩, hp⟩

/-- a contract: the def at f, called with vs from a heap at which pre holds, comes back with a value of post -/
def Con (k : Nat) (f : Addr) (vs : List Value) (pre : Shared → Prop) (post : Value → Prop) : Prop :=
  ∀ (prog : Program) (w : World) (mean : ExcName → Option Value) (mg mb : Str → Option Value) (dp un : Nat) (gd : Option (List Code)) (outer : List Env) (A₀ : Around) (base : Heap) (s : Shared) (Q E : Value → Shared → Prop),
    Below A₀ base outer s.heap → (Mine.hd.heap_39 w.params).In s.heap → Top Mine.hd.view_39 (looseW Mine.hd.view_39 [Str.ofString "length_hint"]) mean mg mb s.heap → dp + 5 * k + 1 < recursionLimit → un + 100 * k + 100 < cLine → pre s →
    (∀ v h' tk', s.heap.StaysIn h' → post v → Q v { s with heap := h', toks := tk' }) →
    wpAny (model prog w) (Ar dp un gd outer) (call (.ref f) vs) Q E s

theorem con_enter {prog : Program} {w : World} {mean : ExcName → Option Value} {mg mb : Str → Option Value} {dp un : Nat} {gd : Option (List Code)} {outer : List Env} {A₀ : Around} {base : Heap} {s : Shared} {Q E : Value → Shared → Prop} {post : Value → Prop}
    {name qual : Str} {params : Arguments} {body : List Stmt} {scope : Scope} {dV kV doc pm cdv ct oc : Value} {an od : Option Addr} {osl : Array (Option Value)} {f : Addr} {vs : List Value} {binds : List (Str × Value)}
    (B : Below A₀ base outer s.heap) (X : (Mine.hd.heap_39 w.params).In s.heap) (T : Top Mine.hd.view_39 (looseW Mine.hd.view_39 [Str.ofString "length_hint"]) mean mg mb s.heap) (hd : dp < recursionLimit)
    (ret : ∀ v h' tk', s.heap.StaysIn h' → post v → Q v { s with heap := h', toks := tk' })
    (ho : (Mine.hd.heap_39 w.params).lookup f = some ⟨oc, od, .func (fnOf name qual params body scope dV kV doc pm an cdv ct), osl⟩) (hcd : codeIn (Mine.hd.heap_39 w.params) cdv qual = true)
    (hbind : BindsTo s (fnOf name qual params body scope dV kV doc pm an cdv ct) ⟨vs, []⟩ binds) (hloc : ∀ y ∈ binds, scope.names.lookup y.1 = some .local)
    (h : ∀ L' h₁, Fr s.heap L' h₁ (fun y => binds.reverse.lookup y) → News s.heap L' h₁ [] → Below (Ar dp un gd outer) base outer s.heap →
      wpAny (model prog w) ((Ar dp un gd outer).deeper (envOf qual scope L' f cdv)) (execs body (envOf qual scope L' f cdv))
        (fun fl s' => Fin post s (match fl with | .ret v => v | _ => .none) s') (fun _ _ => False)
        { s with heap := h₁, toks := s.toks + binds.length })
    (hco : scope.isCoroutine = false) (hgen : scope.isGenerator = false) (hk : scope.kind = .function)
    (hcell : ∀ x ∈ scope.names, x.2 ≠ .cell) : wpAny (model prog w) (Ar dp un gd outer) (call (.ref f) vs) Q E s := by
  refine wpAny_call ?_
  refine codeAny_call_def (fd := fnOf name qual params body scope dV kV doc pm an cdv ct) (body := body) (binds := binds) hd (X _ _ ho) rfl (T.nolimit) (codeRec_of X hcd) rfl hbind hcell hloc (fun h₁ hns hk₁ => ?_) hco hgen hk
  refine wpAny_mono (h s.heap.objs.size h₁ ⟨hns, hk₁, Nat.le_refl _⟩ News.nil ⟨rfl, B.stays, B.frames⟩) ?_ (fun _ _ x => x.elim)
  rintro fl s' ⟨⟨h', tk', rfl, st⟩, hp⟩
  exact ret _ _ _ st hp

theorem Con.use {k : Nat} {f : Addr} {vs : List Value} {pre : Shared → Prop} {post : Value → Prop} (hc : Con k f vs pre post) {prog : Program} {w : World} {mean : ExcName → Option Value} {mg mb : Str → Option Value} {dp un : Nat} {gd : Option (List Code)} {cn : Str} {cs : Scope} {a : Addr} {ccd : Value} {cl : List (Str × Addr)} {outer : List Env} {A₀ : Around} {base h₀ : Heap} {L : Addr} {m : Str → Option Value} {news : List (Addr × Obj)} {s : Shared} {Q E : Value → Shared → Prop}
    (B : Below A₀ base outer h₀) (F : Fr h₀ L s.heap m) (X : (Mine.hd.heap_39 w.params).In h₀) (N : News h₀ L s.heap news) (T : Top Mine.hd.view_39 (looseW Mine.hd.view_39 [Str.ofString "length_hint"]) mean mg mb h₀) (hk : cs.kind = .function) (hd : dp + 5 * k + 1 < recursionLimit) (hu : un + 100 * k + 100 < cLine) (hp : pre s)
    (ret : ∀ v h' tk', post v → Fr h₀ L h' m → News h₀ L h' news → Q v { s with heap := h', toks := tk' }) :
    wpAny (model prog w) (ktrTop dp un gd cn cs L a ccd cl outer) (call (.ref f) vs) Q E s := by
  refine hc prog w mean mg mb dp un gd (envX cn cs L a ccd cl :: outer) _ base s Q E (pushX (env := envX cn cs L a ccd cl) B F rfl hk) (X.keeps F.keep) (T.keeps F.keep) hd hu hp ?_
  intro v h' tk' st hv
  obtain ⟨oL, es, ep, hL, hr⟩ := F.ns
  exact ret v h' tk' hv ⟨⟨oL, es, ep, st _ _ hL, hr⟩, fun b o e => st _ _ (F.keep b o e), F.above⟩ fun p hp => ⟨st _ _ (N p hp).1, (N p hp).2⟩
end Mine
end
section
open PySem PySem.W PyProof.Rows PySem.Calls
set_option maxRecDepth 100000
namespace Mine
theorem setGen_toks (s : Shared) (g : Nat) (x : GenState) : (s.setGen g x).toks = s.toks := rfl
theorem runs_toks {M : Model} {Γ : Ctx} {p : Pos} {t : Sem PySem.Fin} {fs : List Frame} {s : Shared} {e : End} {s' : Shared} (h : Runs M Γ p t fs s e s') : s.toks ≤ s'.toks := by
  induction h <;> (try simp only [setGen_toks] at *) <;> omega
theorem wakes_toks {M : Model} {Γ : Ctx} {p : Pos} {g : Nat} {r : Resume} {s : Shared} {res : GenResult} {s' : Shared} (h : Wakes M Γ p g r s res s') : s.toks ≤ s'.toks := by
  unfold Wakes at h
  split at h
  · exact h.elim
  · split at h
    · obtain ⟨e₁, s₁, hr, _, _, rfl⟩ := h; have q := runs_toks hr; exact q
    · rw [h.2]; exact Nat.le_refl _
    · rw [h.2]; exact Nat.le_refl _
  · obtain ⟨e₁, s₁, hr, _, _, rfl⟩ := h; have q := runs_toks hr; exact q
  · rw [h.2]; exact Nat.le_refl _
  · rw [h.2]; exact Nat.le_refl _
/-- no step takes a token back -/
theorem wp_toks {α : Type} {M : Model} {Γ : Ctx} (t : Sem α) : ∀ {Q : α → Pos → Shared → Prop} {E : Value → Pos → Shared → Prop} {p : Pos} {s : Shared} {n : Nat}, n ≤ s.toks →
    Sem.wp M Γ t (fun a p' s' => n ≤ s'.toks → Q a p' s') (fun a p' s' => n ≤ s'.toks → E a p' s') p s → Sem.wp M Γ t Q E p s := by
  induction t <;> intro Q E p s n hn h <;> (simp only [Sem.wp] at h ⊢)
  case pure => exact h hn
  case raise => exact h hn
  case load k ih => obtain ⟨o, ho, h⟩ := h; exact ⟨o, ho, ih _ hn h⟩
  case update k ih => exact ⟨h.1, ih _ hn h.2⟩
  case fresh k ih => exact ih _ (Nat.le_succ_of_le hn) h
  case choose k ih => exact ⟨h.1, ih _ hn h.2⟩
  case genState k ih => obtain ⟨o, ho, h⟩ := h; exact ⟨o, ho, ih _ hn h⟩
  case call k ih => obtain ⟨r, s', hr, h⟩ := h; exact ⟨r, s', hr, ih _ (Nat.le_trans hn (runs_toks hr)) h⟩
  case resume k ih => obtain ⟨r, s', hr, h⟩ := h; exact ⟨r, s', hr, ih _ (Nat.le_trans hn (wakes_toks hr)) h⟩
  all_goals (rename_i ih; exact ih _ hn h)
theorem wpAny_toks {α : Type} {M : Model} {A : Around} {t : Sem α} {Q : α → Shared → Prop} {E : Value → Shared → Prop} {s : Shared} {n : Nat} (hn : n ≤ s.toks)
    (h : wpAny M A t (fun a s' => n ≤ s'.toks → Q a s') (fun e s' => n ≤ s'.toks → E e s') s) : wpAny M A t Q E s := fun Γ p hΓ => wp_toks t hn (h Γ p hΓ)
end Mine
end
section
open PySem PySem.W PyProof.Rows PySem.Calls
set_option maxRecDepth 100000
namespace Mine
open PySem.Builtin
theorem slot_bytes_lt : Slot "bytes" (cmpInfo .Lt).2.1 "bytes.__lt__" :=
  .of (owner := "bytes") (n := "__lt__") (by rw [typeLookup_type, builtinLookup_eq_fast]; kernel_rfl) (by decide +kernel) (by decide +kernel) (by decide +kernel)
    (by first | exact .inl (by decide +kernel) | exact .inr (by decide +kernel)) (by rw [isSubtype_type]; kernel_rfl)
theorem entry_bytes_lt : entryFor table "bytes.__lt__" = some Builtin.«bytes.__lt__» := entryFor_of_tree (by kernel_rfl)
theorem args_bytes_lt (a b : Value) : argsOk "bytes.__lt__" ⟨[a, b], []⟩ := by unfold argsOk; kernel_rfl
theorem slot_bytes_le : Slot "bytes" (cmpInfo .LtE).2.1 "bytes.__le__" :=
  .of (owner := "bytes") (n := "__le__") (by rw [typeLookup_type, builtinLookup_eq_fast]; kernel_rfl) (by decide +kernel) (by decide +kernel) (by decide +kernel)
    (by first | exact .inl (by decide +kernel) | exact .inr (by decide +kernel)) (by rw [isSubtype_type]; kernel_rfl)
theorem entry_bytes_le : entryFor table "bytes.__le__" = some Builtin.«bytes.__le__» := entryFor_of_tree (by kernel_rfl)
theorem args_bytes_le (a b : Value) : argsOk "bytes.__le__" ⟨[a, b], []⟩ := by unfold argsOk; kernel_rfl
theorem gives_bytes_lt (b c : Array UInt8) (t u : Tok) : Gives («bytes.__lt__» ⟨[.bytes b t, .bytes c u], []⟩) (.val (.bool (Bytes.order b.toList c.toList == .lt))) := by
  refine .of_wp fun M A E s Q hq => ?_
  show wpAny M A (isInstance (.bytes c u) (.type "bytes") >>= fun r => _) _ E s
  refine wpAny_bind (wpAny_isInstance (typeIs_bytes s c u) F.sub_bytes_bytes ?_)
  exact wpAny_pure ⟨_, rfl, hq⟩
theorem gives_bytes_le (b c : Array UInt8) (t u : Tok) : Gives («bytes.__le__» ⟨[.bytes b t, .bytes c u], []⟩) (.val (.bool (Bytes.order b.toList c.toList != .gt))) := by
  refine .of_wp fun M A E s Q hq => ?_
  show wpAny M A (isInstance (.bytes c u) (.type "bytes") >>= fun r => _) _ E s
  refine wpAny_bind (wpAny_isInstance (typeIs_bytes s c u) F.sub_bytes_bytes ?_)
  exact wpAny_pure ⟨_, rfl, hq⟩
/-- the order of two rows of ints, as bytes are ordered -/
def ordI : List Int → List Int → Ordering
  | [], [] => .eq
  | [], _ :: _ => .lt
  | _ :: _, [] => .gt
  | x :: xs, y :: ys => if x < y then .lt else if y < x then .gt else ordI xs ys
theorem ordI_of : ∀ a b : List UInt8, Bytes.order a b = ordI (a.map fun c => (c.toNat : Int)) (b.map fun c => (c.toNat : Int))
  | [], [] | [], _ :: _ | _ :: _, [] => rfl
  | x :: a, y :: b => by
    have h1 : x < y ↔ (x.toNat : Int) < (y.toNat : Int) := by rw [UInt8.lt_iff_toNat_lt]; omega
    have h2 : x > y ↔ (y.toNat : Int) < (x.toNat : Int) := by rw [GT.gt, UInt8.lt_iff_toNat_lt]; omega
    simp only [Bytes.order, List.map_cons, ordI, h1, h2, ordI_of a b]
section
variable {prog : Program} {w : World} {A : Around} {E : Value → Shared → Prop} {s : Shared} {b c : Array UInt8} {t u : Tok} {ks ls : List Int}
theorem lt_K {Q : Value → Shared → Prop} (hb : KBw.bInts b = ks) (hc : KBw.bInts c = ls) (h : Q (.bool (ordI ks ls == .lt)) s) : wpAny (model prog w) A (compareOp .Lt (.bytes b t) (.bytes c u)) Q E s := by
  refine compareOp_gives (op := .Lt) (typeIs_bytes s b t) (typeIs_bytes s c u) slot_bytes_lt entry_bytes_lt (args_bytes_lt _ _) (gives_bytes_lt b c t u) (fun e => nomatch e) ?_
  rw [ordI_of]; subst hb hc; exact h
theorem le_K {Q : Value → Shared → Prop} (hb : KBw.bInts b = ks) (hc : KBw.bInts c = ls) (h : Q (.bool (ordI ks ls != .gt)) s) : wpAny (model prog w) A (compareOp .LtE (.bytes b t) (.bytes c u)) Q E s := by
  refine compareOp_gives (op := .LtE) (typeIs_bytes s b t) (typeIs_bytes s c u) slot_bytes_le entry_bytes_le (args_bytes_le _ _) (gives_bytes_le b c t u) (fun e => nomatch e) ?_
  rw [ordI_of]; subst hb hc; exact h
end
end Mine
end
section
open PySem PySem.W PyProof.Rows PySem.Calls
set_option maxRecDepth 100000
namespace Mine
open PySem.Builtin
theorem typeName_bytes : typeName (.type "bytes") = pure "bytes" := by unfold typeName; rw [find?_eq_fast]; kernel_rfl
theorem no_index_bytes : typeLookup (.type "bytes") "__index__" = pure none := by rw [typeLookup_type, builtinLookup_eq_fast]; kernel_rfl
theorem cut_bytes {M : Model} {A : Around} {E : Value → Shared → Prop} {s : Shared} {b : Array UInt8} {t : Tok} {n : Nat} {Q : String → Shared → Prop} (h : Q "bytes" s) : wpAny M A (typeNameOfCut n (.bytes b t)) Q E s := by
  unfold typeNameOfCut shownTypeOf
  refine wpAny_bind (wpAny_bind (wpAny_typeOf (typeIs_bytes _ b t) ?_))
  simp only [show (Value.type "bytes" == Value.type "builtin_function_or_method") = false by decide, Bool.false_eq_true, if_false]
  refine wpAny_pure ?_
  rw [show typeNameCut n (.type "bytes") = typeName (.type "bytes") from rfl, typeName_bytes]
  exact wpAny_pure h
theorem asIndex_bytes {M : Model} {A : Around} {E : Value → Shared → Prop} {s : Shared} {b : Array UInt8} {t : Tok} {Q : Int → Shared → Prop} (hh : A.handled = none)
    (h : ∀ h' tk e, Heap.NewExc s.heap h' e "TypeError" → E (.ref e) { s with heap := h', toks := tk }) : wpAny M A (asIndex (.bytes b t)) Q E s := by
  unfold asIndex
  refine wpAny_bind ?_
  show wpAny M A (do notAStandIn (.bytes b t); pure none) _ E s
  refine wpAny_bind (wpAny_of_eq (a := ()) rfl ?_)
  refine wpAny_pure ?_
  dsimp only
  refine wpAny_bind (wpAny_callSpecial?_none (typeIs_bytes _ b t) no_index_bytes ?_)
  dsimp only
  refine wpAny_bind (cut_bytes ?_)
  first
    | exact wpAny_raiseTypeError hh h
    | exact wpAny_raiseTypeErrorWords hh h
theorem meets_contains {b c : Array UInt8} {t u : Tok} : Meets («bytes.__contains__» ⟨[.bytes b t, .bytes c u], []⟩) (fun A R s => A.handled = none ∧ ∀ h' tk, s.heap.StaysIn h' → R (.ok (.ret (.bool (Bytes.find? b c 0 b.size).isSome))) { s with heap := h', toks := tk }) := by
  intro prog w A R s ⟨hh, h⟩
  show wpAny _ _ (Bytes.containsIn "bytes.__contains__" (.bytes b t) (.bytes c u) >>= fun r => _) _ _ s
  unfold Bytes.containsIn
  refine wpAny_bind (wpAny_bind (wpAny_attempt (asIndex_bytes hh fun h' tk e x => ?_)))
  refine wpAny_bind (wpAny_of_eq KBy.buffer_eq ?_)
  dsimp only
  refine wpAny_bind (wpAny_of_eq KBy.buffer_eq ?_)
  dsimp only
  refine wpAny_bind (wpAny_rule ?_)
  refine wpAny_pure (wpAny_pure ?_)
  exact h _ _ x.keeps
/-- some run of ks is ls -/
def hasI (ks ls : List Int) : Bool := (List.range (ks.length + 1 - ls.length)).any fun i => (ks.drop i).take ls.length == ls
theorem ints_inj {a b : List UInt8} (h : (a.map fun c => (c.toNat : Int)) = b.map fun c => (c.toNat : Int)) : a = b := by
  induction a generalizing b with
  | nil => cases b with
    | nil => rfl
    | cons y b => simp at h
  | cons x a ih => cases b with
    | nil => simp at h
    | cons y b =>
      simp only [List.map_cons, List.cons.injEq] at h
      have : x = y := UInt8.toNat_inj.mp (by omega)
      rw [this, ih h.2]
theorem bInts_inj {b c : Array UInt8} (h : KBw.bInts b = KBw.bInts c) : b = c := Array.toList_inj.mp (ints_inj h)
theorem eq_ints {b c : Array UInt8} {ks ls : List Int} (hb : KBw.bInts b = ks) (hc : KBw.bInts c = ls) : (b.toList == c.toList) = decide (ks = ls) := by
  rw [Bool.eq_iff_iff]
  simp only [beq_iff_eq, decide_eq_true_eq]
  exact ⟨fun e => by rw [← hb, ← hc, KBw.bInts, KBw.bInts, e], fun e => by rw [bInts_inj (hb.trans (e.trans hc.symm))]⟩
theorem hasI_of {b c : Array UInt8} {ks ls : List Int} (hb : KBw.bInts b = ks) (hc : KBw.bInts c = ls) : (Bytes.find? b c 0 b.size).isSome = hasI ks ls := by
  have l1 : ks.length = b.size := by rw [← hb]; exact KBw.ints_length b
  have l2 : ls.length = c.size := by rw [← hc]; exact KBw.ints_length c
  unfold Bytes.find? hasI
  rw [Bool.eq_iff_iff, List.find?_isSome, List.any_eq_true, l1, l2]
  have key : ∀ i, (b.extract i (i + c.size) == c) = ((ks.drop i).take c.size == ls) := by
    intro i
    rw [Bool.eq_iff_iff]
    simp only [beq_iff_eq]
    have e : KBw.bInts (b.extract i (i + c.size)) = (ks.drop i).take c.size := by
      rw [← hb]
      simp only [KBw.bInts, Array.toList_extract, List.extract_eq_drop_take, Nat.add_sub_cancel_left, List.map_take, List.map_drop]
    exact ⟨fun h => by rw [← e, h, hc], fun h => bInts_inj (by rw [e, h, hc])⟩
  simp only [Nat.zero_add, Nat.add_zero, List.map_id', key]
theorem Fr.stay {h₀ h h' : Heap} {L : Addr} {m : Str → Option Value} (F : Fr h₀ L h m) (st : h.StaysIn h') : Fr h₀ L h' m := by
  obtain ⟨oL, es, ep, hL, hr⟩ := F.ns
  exact ⟨⟨oL, es, ep, st _ _ hL, hr⟩, fun b o e => st _ _ (F.keep b o e), F.above⟩
theorem News.stay {h₀ h h' : Heap} {L : Addr} {news : List (Addr × Obj)} (N : News h₀ L h news) (st : h.StaysIn h') : News h₀ L h' news :=
  fun p hp => ⟨st _ _ (N p hp).1, (N p hp).2⟩
theorem in_K {prog : Program} {w : World} {A : Around} {E : Value → Shared → Prop} {s : Shared} {b c : Array UInt8} {t u : Tok} {ks ls : List Int} {h₀ : Heap} {L : Addr} {m : Str → Option Value} {news : List (Addr × Obj)} {Q : Value → Shared → Prop}
    (F : Fr h₀ L s.heap m) (N : News h₀ L s.heap news) (hh : A.handled = none) (hb : KBw.bInts b = ks) (hc : KBw.bInts c = ls)
    (h : ∀ h' tk, Fr h₀ L h' m → News h₀ L h' news → Q (.bool (hasI ks ls)) { s with heap := h', toks := tk }) : wpAny (model prog w) A (compareOp .In (.bytes c u) (.bytes b t)) Q E s := by
  refine In_slot (typeIs_bytes s b t) FB.slot_bytes_contains (call_meets FB.slot_bytes_contains (typeIs_bytes s b t) FB.entry_bytes_contains (FB.args_bytes_contains_2 _ _) meets_contains ⟨hh, fun h' tk st => ?_⟩)
  rw [hasI_of hb hc]
  exact wpAny_pure (h _ _ (Fr.stay F st) (News.stay N st))
end Mine
end
section
open PySem PySem.W PyProof.Rows PySem.Calls
set_option maxRecDepth 100000
namespace Mine
open PySem.Builtin
theorem gives_mul_same {n : Int} {t u : Tok} (hf : Bytes.fitsIndex n = true) : Gives («bytes.__mul__» ⟨[.bytes #[] t, .int n u], []⟩) (.val (.bytes #[] t)) := by
  refine .of_wp fun M A E s Q hq => ?_
  show wpAny M A (Bytes.repeatArgs .bytes "__mul__" ⟨[.bytes #[] t, .int n u], []⟩ >>= fun r => _) _ E s
  refine wpAny_bind (wpAny_of_eq (BMul.args_eq hf) ?_)
  refine wpAny_bind (wpAny_of_eq (a := (#[] : Array UInt8)) rfl ?_)
  show wpAny M A (if (#[] : Array UInt8).size * n.toNat ≥ 2 ^ 63 then _ else _) _ E s
  rw [if_neg (by simp)]
  refine bm_if_true (by simp) ?_
  refine wpAny_bind (wpAny_typeOf (typeIs_bytes s _ t) ?_)
  refine bm_if_true (by decide) ?_
  refine wpAny_bind (wpAny_rule ?_)
  exact wpAny_pure ⟨_, rfl, hq⟩
theorem ints_rep (b : List UInt8) (n : Nat) : KBw.bInts ((List.replicate n b).flatten).toArray = (List.replicate n (b.map fun c => (c.toNat : Int))).flatten := by
  simp [KBw.bInts, List.map_flatten]
theorem mul_K {prog : Program} {w : World} {A : Around} {E : Value → Shared → Prop} {s : Shared} {b : Array UInt8} {t u : Tok} {n : Int} {ks : List Int} {Q : Value → Shared → Prop}
    (hb : KBw.bInts b = ks) (hs : ks.length ≤ 16) (hlo : -1048576 ≤ n) (hn : n ≤ 1048576) (h : ∀ d t' k, KBw.bInts d = (List.replicate n.toNat ks).flatten → Q (.bytes d t') { s with toks := k }) :
    wpAny (model prog w) A (binaryOp .Mult (.bytes b t) (.int n u)) Q E s := by
  obtain ⟨b⟩ := b
  subst hb
  cases b with
  | nil =>
    have hf : Builtin.Bytes.fitsIndex n = true := by
      simp only [Builtin.Bytes.fitsIndex, Bool.and_eq_true, decide_eq_true_eq]; omega
    refine wpAny_binaryOp_repeat (T := "bytes") (U := "int") (by decide) (fun s' => typeIs_bytes s' _ t) (fun s' => typeIs_int s' n u) BMul.noFill F.fills_int_mul F.slot_int_rmul BMul.repeats F.slot_int_index.lookup
      (call_gives F.slot_int_rmul (typeIs_int s n u) F.entry_int_rmul (F.args_int_rmul_2 _ _) (BMul.int_declines n u _ t)
        ⟨rfl, call_gives BMul.slot_mul (typeIs_bytes s _ t) BMul.entry_mul (BMul.args_mul _ _) (gives_mul_same hf) ?_⟩)
    exact h _ t s.toks (by simp [KBw.bInts])
  | cons x b =>
    refine bytes_mul_any (List.cons_ne_nil _ _) hlo hn (by simpa [KBw.bInts] using hs) fun t' k => h _ _ _ ?_
    rw [ints_rep]; simp [KBw.bInts]
end Mine
end
section
open PySem PySem.W PyProof.Rows PySem.Calls
set_option maxRecDepth 100000
namespace Mine
/-- every object stays, but that a frame of fs may have been noted in its slots -/
def Stay (fs : List Addr) (h h' : Heap) : Prop :=
  (∀ b o, h.get? b = some o → b ∉ fs → h'.get? b = some o) ∧ ∀ b o, h.get? b = some o → b ∈ fs → ∃ sl, h'.get? b = some { o with slots := sl }
theorem Stay.of_stays {fs : List Addr} {h h' : Heap} (st : h.StaysIn h') : Stay fs h h' := ⟨fun b o e _ => st b o e, fun b o e _ => ⟨o.slots, st b o e⟩⟩
theorem Stay.up {fs : List Addr} {h h' : Heap} (x : Stay fs h h') {b : Addr} {o : Obj} (e : h.get? b = some o) : ∃ sl, h'.get? b = some { o with slots := sl } := by
  by_cases m : b ∈ fs
  · exact x.2 b o e m
  · exact ⟨o.slots, x.1 b o e m⟩
def FinS (post : Value → Prop) (s : Shared) (outer : List Env) (v : Value) (s' : Shared) : Prop :=
  (∃ h' tk', s' = { s with heap := h', toks := tk' } ∧ Stay (outer.filterMap (·.frame)) s.heap h') ∧ post v
theorem FinS.intro {post : Value → Prop} {s : Shared} {outer : List Env} {v : Value} {h' g' : Heap} {tk' : Nat} {L : Addr} {m : Str → Option Value} (T : KtsTurn (outer.filterMap (·.frame)) s.heap g') (F : Fr g' L h' m) (hp : post v) : FinS post s outer v { s with heap := h', toks := tk' } :=
  ⟨⟨_, _, rfl, fun b o e m => F.keep _ _ (T.other b o e m), fun b o e m => by obtain ⟨sl, q⟩ := T.frame b o e m; exact ⟨sl, F.keep _ _ q⟩⟩, hp⟩
/-- a contract of a def that may catch -/
def ConS (k : Nat) (f : Addr) (vs : List Value) (pre : Shared → Prop) (post : Value → Prop) : Prop :=
  ∀ (prog : Program) (w : World) (mean : ExcName → Option Value) (mg mb : Str → Option Value) (dp un : Nat) (gd : Option (List Code)) (outer : List Env) (A₀ : Around) (base : Heap) (s : Shared) (Q E : Value → Shared → Prop),
    Below A₀ base outer s.heap → (Mine.hd.heap_39 w.params).In base → Top Mine.hd.view_39 (looseW Mine.hd.view_39 [Str.ofString "length_hint"]) mean mg mb base → KtsDicts (outer.filterMap (·.frame)) s.heap →
    dp + 5 * k + 1 < recursionLimit → un + 100 * k + 100 < cLine → pre s →
    (∀ v h' tk', Stay (outer.filterMap (·.frame)) s.heap h' → post v → Q v { s with heap := h', toks := tk' }) →
    wpAny (model prog w) (Ar dp un gd outer) (call (.ref f) vs) Q E s
/-- a contract of a def that raises cls -/
def ConE (k : Nat) (f : Addr) (vs : List Value) (pre : Shared → Prop) (cls : String) : Prop :=
  ∀ (prog : Program) (w : World) (mean : ExcName → Option Value) (mg mb : Str → Option Value) (dp un : Nat) (gd : Option (List Code)) (outer : List Env) (A₀ : Around) (base : Heap) (s : Shared) (Q E : Value → Shared → Prop),
    Below A₀ base outer s.heap → (Mine.hd.heap_39 w.params).In s.heap → Top Mine.hd.view_39 (looseW Mine.hd.view_39 [Str.ofString "length_hint"]) mean mg mb s.heap →
    dp + 5 * k + 1 < recursionLimit → un + 100 * k + 100 < cLine → pre s →
    (∀ e h' tk', RaisedSN base s.heap outer e (.type cls) [] h' → s.heap.UpToSlots h' → E (.ref e) { s with heap := h', toks := tk' }) →
    wpAny (model prog w) (Ar dp un gd outer) (call (.ref f) vs) Q E s

def EndE (s : Shared) (base : Heap) (outer : List Env) (cls : String) (e : Value) (s' : Shared) : Prop := ∃ ea h' tk', e = .ref ea ∧ s' = { s with heap := h', toks := tk' } ∧ RaisedSN base s.heap outer ea (.type cls) [] h' ∧ s.heap.UpToSlots h'
theorem EndE.intro {s : Shared} {base : Heap} {outer : List Env} {cls : String} {ea : Addr} {h' : Heap} {tk' : Nat} (R : RaisedSN base s.heap outer ea (.type cls) [] h') (U : s.heap.UpToSlots h') : EndE s base outer cls (.ref ea) { s with heap := h', toks := tk' } := ⟨_, _, _, rfl, rfl, R, U⟩
theorem EndE.leave {M : Model} {A : Around} {s : Shared} {base : Heap} {outer : List Env} {L' a : Addr} {name : Str} {scope : Scope} {cd : Value} {cls : String} {ea : Addr} {h' h'' : Heap} {m : Str → Option Value} {tk' : Nat} {E : Value → Shared → Prop} (B : Below A base outer s.heap) (F : Fr s.heap L' h' m) (nx : Heap.NewExc h' h'' ea cls) (hk : scope.kind = .function) :
    wpAny M (A.deeper (envOf name scope L' a cd)) (leaving (envOf name scope L' a cd) (.ref ea)) (fun _ s'' => EndE s base outer cls (.ref ea) s'') E { s with heap := h'', toks := tk' } :=
  leave_newS (h := h') B nx F News.nil (fun h3 R _ U => ⟨_, _, _, rfl, rfl, R, U⟩) hk
section
variable {k : Nat} {prog : Program} {w : World} {mean : ExcName → Option Value} {mg mb : Str → Option Value} {dp un : Nat} {gd : Option (List Code)} {outer : List Env} {A₀ : Around} {base : Heap} {s : Shared} {Q E : Value → Shared → Prop} {post : Value → Prop}
    {name qual : Str} {params : Arguments} {body : List Stmt} {scope : Scope} {dV kV doc pm cdv ct oc : Value} {an od : Option Addr} {osl : Array (Option Value)} {f : Addr} {vs : List Value} {binds : List (Str × Value)}
theorem conS_enter
    (B : Below A₀ base outer s.heap) (XB : (Mine.hd.heap_39 w.params).In base) (TB : Top Mine.hd.view_39 (looseW Mine.hd.view_39 [Str.ofString "length_hint"]) mean mg mb base) (D : KtsDicts (outer.filterMap (·.frame)) s.heap) (hd : dp < recursionLimit)
    (ret : ∀ v h' tk', Stay (outer.filterMap (·.frame)) s.heap h' → post v → Q v { s with heap := h', toks := tk' })
    (ho : (Mine.hd.heap_39 w.params).lookup f = some ⟨oc, od, .func (fnOf name qual params body scope dV kV doc pm an cdv ct), osl⟩) (hcd : codeIn (Mine.hd.heap_39 w.params) cdv qual = true)
    (hbind : BindsTo s (fnOf name qual params body scope dV kV doc pm an cdv ct) ⟨vs, []⟩ binds) (hloc : ∀ y ∈ binds, scope.names.lookup y.1 = some .local)
    (h : ∀ L' h₁, Fr s.heap L' h₁ (fun y => binds.reverse.lookup y) → News s.heap L' h₁ [] → Below (Ar dp un gd outer) base outer s.heap → (Mine.hd.heap_39 w.params).In s.heap → Top Mine.hd.view_39 (looseW Mine.hd.view_39 [Str.ofString "length_hint"]) mean mg mb s.heap → KtsTurn (outer.filterMap (·.frame)) s.heap s.heap →
      wpAny (model prog w) ((Ar dp un gd outer).deeper (envOf qual scope L' f cdv)) (execs body (envOf qual scope L' f cdv))
        (fun fl s' => FinS post s outer (match fl with | .ret v => v | _ => .none) s') (fun _ _ => False)
        { s with heap := h₁, toks := s.toks + binds.length })
    (hco : scope.isCoroutine = false) (hgen : scope.isGenerator = false) (hk : scope.kind = .function)
    (hcell : ∀ x ∈ scope.names, x.2 ≠ .cell) : wpAny (model prog w) (Ar dp un gd outer) (call (.ref f) vs) Q E s := by
  have X := XB.keeps B.stays
  have T := TB.keeps B.stays
  refine wpAny_call ?_
  refine codeAny_call_def (fd := fnOf name qual params body scope dV kV doc pm an cdv ct) (body := body) (binds := binds) hd (X _ _ ho) rfl (T.nolimit) (codeRec_of X hcd) rfl hbind hcell hloc (fun h₁ hns hk₁ => ?_) hco hgen hk
  refine wpAny_mono (h s.heap.objs.size h₁ ⟨hns, hk₁, Nat.le_refl _⟩ News.nil ⟨rfl, B.stays, B.frames⟩ X T .refl) ?_ (fun _ _ x => x.elim)
  rintro fl s' ⟨⟨h', tk', rfl, st⟩, hp⟩
  exact ret _ _ _ st hp
theorem conE_enter {cls : String}
    (B : Below A₀ base outer s.heap) (X : (Mine.hd.heap_39 w.params).In s.heap) (T : Top Mine.hd.view_39 (looseW Mine.hd.view_39 [Str.ofString "length_hint"]) mean mg mb s.heap) (hd : dp < recursionLimit)
    (ret : ∀ e h' tk', RaisedSN base s.heap outer e (.type cls) [] h' → s.heap.UpToSlots h' → E (.ref e) { s with heap := h', toks := tk' })
    (ho : (Mine.hd.heap_39 w.params).lookup f = some ⟨oc, od, .func (fnOf name qual params body scope dV kV doc pm an cdv ct), osl⟩) (hcd : codeIn (Mine.hd.heap_39 w.params) cdv qual = true)
    (hbind : BindsTo s (fnOf name qual params body scope dV kV doc pm an cdv ct) ⟨vs, []⟩ binds) (hloc : ∀ y ∈ binds, scope.names.lookup y.1 = some .local)
    (h : ∀ L' h₁, Fr s.heap L' h₁ (fun y => binds.reverse.lookup y) → News s.heap L' h₁ [] → Below (Ar dp un gd outer) base outer s.heap →
      wpAny (model prog w) ((Ar dp un gd outer).deeper (envOf qual scope L' f cdv)) (execs body (envOf qual scope L' f cdv))
        (fun _ _ => False) (fun e s' => wpAny (model prog w) ((Ar dp un gd outer).deeper (envOf qual scope L' f cdv)) (leaving (envOf qual scope L' f cdv) e) (fun _ s'' => EndE s base outer cls e s'') (fun _ _ => False) s')
        { s with heap := h₁, toks := s.toks + binds.length })
    (hco : scope.isCoroutine = false) (hgen : scope.isGenerator = false) (hk : scope.kind = .function)
    (hcell : ∀ x ∈ scope.names, x.2 ≠ .cell) : wpAny (model prog w) (Ar dp un gd outer) (call (.ref f) vs) Q E s := by
  refine wpAny_call ?_
  refine codeAny_call_def (fd := fnOf name qual params body scope dV kV doc pm an cdv ct) (body := body) (binds := binds) hd (X _ _ ho) rfl (T.nolimit) (codeRec_of X hcd) rfl hbind hcell hloc (fun h₁ hns hk₁ => ?_) hco hgen hk
  have B' : Below (Ar dp un gd outer) base outer s.heap := ⟨rfl, B.stays, B.frames⟩
  refine wpAny_mono (h s.heap.objs.size h₁ ⟨hns, hk₁, Nat.le_refl _⟩ News.nil B') (fun _ _ x => x.elim) ?_
  intro e s' hl
  refine wpAny_mono hl (fun _ s'' h => ?_) (fun _ _ x => x.elim)
  obtain ⟨ea, h', tk', rfl, rfl, R, U⟩ := h
  exact ret _ _ _ R U
end
theorem mem_frames {env : Env} {L b : Addr} {outer : List Env} (hf : env.frame = some L) (hm : b ∈ (env :: outer).filterMap (·.frame)) : b = L ∨ b ∈ outer.filterMap (·.frame) := by
  obtain ⟨env', he, hf'⟩ := List.mem_filterMap.mp hm
  rcases List.mem_cons.mp he with rfl | he
  · exact .inl (Option.some.inj (hf.symm.trans hf')).symm
  · exact .inr (List.mem_filterMap.mpr ⟨env', he, hf'⟩)
section
variable {k : Nat} {f : Addr} {vs : List Value} {pre : Shared → Prop} {post : Value → Prop} {prog : Program} {w : World} {mean : ExcName → Option Value} {mg mb : Str → Option Value} {dp un : Nat} {gd : Option (List Code)} {cn : Str} {cs : Scope} {a : Addr} {ccd : Value} {cl : List (Str × Addr)} {outer : List Env} {A₀ : Around} {base h₀ g₀ : Heap} {L : Addr} {m : Str → Option Value} {news : List (Addr × Obj)} {s : Shared} {Q E : Value → Shared → Prop}
theorem ConE.use {cls : String} (hc : ConE k f vs pre cls) (B : Below A₀ base outer h₀) (F : Fr h₀ L s.heap m) (X : (Mine.hd.heap_39 w.params).In h₀) (T : Top Mine.hd.view_39 (looseW Mine.hd.view_39 [Str.ofString "length_hint"]) mean mg mb h₀) (hk : cs.kind = .function) (hd : dp + 5 * k + 1 < recursionLimit) (hu : un + 100 * k + 100 < cLine) (hp : pre s)
    (ret : ∀ e h' tk', RaisedSN base s.heap (envX cn cs L a ccd cl :: outer) e (.type cls) [] h' → s.heap.UpToSlots h' → E (.ref e) { s with heap := h', toks := tk' }) :
    wpAny (model prog w) (ktrTop dp un gd cn cs L a ccd cl outer) (call (.ref f) vs) Q E s :=
  hc prog w mean mg mb dp un gd (envX cn cs L a ccd cl :: outer) _ base s Q E (pushX (env := envX cn cs L a ccd cl) B F rfl hk) (X.keeps F.keep) (T.keeps F.keep) hd hu hp ret
theorem ConS.use (hc : ConS k f vs pre post) (B : Below A₀ base outer h₀) (F : Fr h₀ L s.heap m) (N : News h₀ L s.heap news) (XB : (Mine.hd.heap_39 w.params).In base) (TB : Top Mine.hd.view_39 (looseW Mine.hd.view_39 [Str.ofString "length_hint"]) mean mg mb base) (D : KtsDicts (outer.filterMap (·.frame)) h₀) (T0 : KtsTurn (outer.filterMap (·.frame)) g₀ h₀)
    (hk : cs.kind = .function) (hd : dp + 5 * k + 1 < recursionLimit) (hu : un + 100 * k + 100 < cLine) (hp : pre s)
    (ret : ∀ v h' tk' h₀', post v → KtsTurn (outer.filterMap (·.frame)) g₀ h₀' → Fr h₀' L h' m → News h₀' L h' news → Below A₀ base outer h₀' → (Mine.hd.heap_39 w.params).In h₀' → Top Mine.hd.view_39 (looseW Mine.hd.view_39 [Str.ofString "length_hint"]) mean mg mb h₀' → KtsDicts (outer.filterMap (·.frame)) h₀' → Q v { s with heap := h', toks := tk' }) :
    wpAny (model prog w) (ktrTop dp un gd cn cs L a ccd cl outer) (call (.ref f) vs) Q E s := by
  obtain ⟨oL, es, ep, hL, hLd, hr⟩ := F.ns
  have nL₀ : h₀.get? L = none := kts_self F
  refine hc prog w mean mg mb dp un gd (envX cn cs L a ccd cl :: outer) _ base s Q E (pushX (env := envX cn cs L a ccd cl) B F rfl hk) XB TB (fun b hb => ?_) hd hu hp ?_
  · rcases mem_frames (env := envX cn cs L a ccd cl) rfl hb with rfl | hb
    · exact ⟨oL, es, ep, hL, hLd⟩
    · obtain ⟨o, es', n', ho', hd'⟩ := D b hb
      exact ⟨o, es', n', F.keep b o ho', hd'⟩
  intro v h' tk' st hv
  obtain ⟨sl, hs⟩ := st.up hL
  obtain ⟨T₁, S₁⟩ := kts_turn_at (h := h') (fs := outer.filterMap (·.frame)) (g := h₀)
    (fun b hb => by
      obtain ⟨_, o, ho', _⟩ := B.frames.mem hb
      exact ⟨o, ho'⟩)
    (fun b o e nmem => st.1 b o (F.keep b o e) (fun q => by
      rcases mem_frames (env := envX cn cs L a ccd cl) rfl q with z | z
      · rw [z, nL₀] at e
        cases e
      · exact nmem z))
    (fun b o e hm => st.up (F.keep b o e))
  have B₃ : Below A₀ base outer (ktsHeap h' (outer.filterMap (·.frame)) h₀) := ⟨B.stack, fun b o e => T₁.other b o (B.stays b o e) (fun hm => by
    rw [(B.frames.mem hm).1] at e
    cases e), B.frames.of_keeps fun b o e _ => by
    obtain ⟨sl', hs'⟩ := T₁.up e
    exact ⟨_, hs', rfl⟩⟩
  refine ret v h' tk' _ hv (T0.trans T₁) ⟨⟨_, es, ep, hs, hLd, hr⟩, S₁, by rw [T₁.size]; exact F.above⟩ (fun p hp => ⟨?_, (N p hp).2.1, T₁.none_ _ (N p hp).2.2⟩) B₃ (XB.keeps B₃.stays) (TB.keeps B₃.stays) (D.turn T₁)
  refine st.1 _ _ (N p hp).1 fun q => ?_
  rcases mem_frames (env := envX cn cs L a ccd cl) rfl q with z | z
  · exact (N p hp).2.1 z
  · obtain ⟨_, o, ho', _⟩ := B.frames.mem z
    rw [(N p hp).2.2] at ho'; cases ho'
theorem ConS.use0 (hc : ConS k f vs pre post) (B : Below A₀ base [] h₀) (F : Fr h₀ L s.heap m) (N : News h₀ L s.heap news) (XB : (Mine.hd.heap_39 w.params).In base) (TB : Top Mine.hd.view_39 (looseW Mine.hd.view_39 [Str.ofString "length_hint"]) mean mg mb base)
    (hk : cs.kind = .function) (hd : dp + 5 * k + 1 < recursionLimit) (hu : un + 100 * k + 100 < cLine) (hp : pre s)
    (ret : ∀ v h' tk', post v → Fr h₀ L h' m → News h₀ L h' news → Q v { s with heap := h', toks := tk' }) :
    wpAny (model prog w) (ktrTop dp un gd cn cs L a ccd cl []) (call (.ref f) vs) Q E s := by
  obtain ⟨oL, es, ep, hL, hLd, hr⟩ := F.ns
  have nL₀ : h₀.get? L = none := kts_self F
  refine hc prog w mean mg mb dp un gd [envX cn cs L a ccd cl] _ base s Q E (pushX (env := envX cn cs L a ccd cl) B F rfl hk) XB TB (fun b hb => ?_) hd hu hp ?_
  · rcases mem_frames (env := envX cn cs L a ccd cl) rfl hb with rfl | hb
    · exact ⟨oL, es, ep, hL, hLd⟩
    · cases hb
  intro v h' tk' st hv
  obtain ⟨sl, hs⟩ := st.up hL
  refine ret v h' tk' hv ⟨⟨_, es, ep, hs, hLd, hr⟩, fun b o e => st.1 b o (F.keep b o e) fun q => ?_, F.above⟩ (fun p hp => ⟨st.1 _ _ (N p hp).1 fun q => ?_, (N p hp).2⟩)
  · rcases mem_frames (env := envX cn cs L a ccd cl) rfl q with z | z
    · rw [z, nL₀] at e; cases e
    · cases z
  · rcases mem_frames (env := envX cn cs L a ccd cl) rfl q with z | z
    · exact (N p hp).2.1 z
    · cases z
end

end Mine
end
section
open PySem PySem.W PyProof.Rows PySem.Calls
set_option maxRecDepth 100000
namespace Mine
open PySem.Builtin
theorem seq_none {i : Int} {n : Nat} (h : i < -(n : Int) ∨ (n : Int) ≤ i) {b : Array UInt8} (hb : b.size = n) : (seqIndex? i b.size).bind (b[·]?) = none := by
  subst hb
  unfold seqIndex?
  split <;> (try split) <;> simp <;> omega
theorem meets_getitem_out {b : Array UInt8} {i : Int} {t u : Tok} (hr : Bytes.fitsIndex i = true) (h : (seqIndex? i b.size).bind (b[·]?) = none) :
    Meets («bytes.__getitem__» ⟨[.bytes b t, .int i u], []⟩) (raisesNew "IndexError") := by
  intro prog w A R s hs
  show wpAny _ _ (Bytes.subscript? (.int i u) >>= fun r => _) _ _ s
  refine wpAny_bind ?_
  unfold Bytes.subscript?
  refine wpAny_bind (wpAny_specialOf (typeIs_int s i u) F.slot_int_index.lookup ?_)
  show wpAny _ _ (if (!Bytes.fitsIndex i) = true then _ else pure (some i)) _ _ s
  rw [hr]
  refine wpAny_pure ?_
  show wpAny _ _ (match (seqIndex? i b.size).bind (b[·]?) with | some x => retInt x.toNat | none => _) _ _ s
  rw [h]
  first
    | exact wpAny_bind (wpAny_rule (by exact_raiseError plainExc_IndexError hs.1 hs.2))
    | exact wpAny_bind (wpAny_rule (wpAny_bind (by exact_raiseError plainExc_IndexError hs.1 hs.2)))
theorem item_out {prog : Program} {w : World} {A : Around} {E : Value → Shared → Prop} {s : Shared} {b : Array UInt8} {t u : Tok} {i : Int} {ks : List Int} {value slice : PySem.Expr} {Q : Value → Shared → Prop} (hh : A.handled = none) (hk : KBw.bInts b = ks) (hz : ks.length ≤ 1000000)
    (hr : i < -(ks.length : Int) ∨ (ks.length : Int) ≤ i) (hi : -1000000000 ≤ i) (hi' : i ≤ 1000000000)
    (h : ∀ h' tk e, Heap.NewExc s.heap h' e "IndexError" → E (.ref e) { s with heap := h', toks := tk })
    (hs : subscripted slice false (.bytes b t) (.int i u) = operate [.bytes b t, .int i u] (getItem (.bytes b t) (.int i u)) := by with_unfolding_all rfl) :
    wpAny (model prog w) A (subscriptTail value slice (.bytes b t) (.int i u)) Q E s := by
  refine tail_any (typeIs_bytes s b t) FB.slot_bytes_getitem.lookup ?_ hs
  refine getItem_slot (typeIs_bytes s b t) (by decide) FB.slot_bytes_getitem (call_meets FB.slot_bytes_getitem (typeIs_bytes s b t) FB.entry_bytes_getitem (FB.args_bytes_getitem_2 _ _) (meets_getitem_out ?_ ?_) ⟨hh, h⟩)
  · simp only [Bytes.fitsIndex, Bool.and_eq_true, decide_eq_true_eq]; omega
  · exact seq_none hr (by rw [← hk]; exact (KBw.ints_length b).symm)
end Mine
end
section
namespace Mine
/-- the letters of n, as ints, the highest figure first -/
def wN (n : Nat) : List Int := if n = 0 then [] else wN (n / 16) ++ [65 + ((n % 16 : Nat) : Int)]
termination_by n
decreasing_by omega
theorem wN_zero : wN 0 = [] := by rw [wN]; simp
theorem wN_pos {n : Nat} (h : n ≠ 0) : wN n = wN (n / 16) ++ [65 + ((n % 16 : Nat) : Int)] := by rw [wN]; simp [h]
theorem wN_len {n k : Nat} (h : n < 16 ^ k) : (wN n).length ≤ k := by
  induction k generalizing n with
  | zero => have : n = 0 := by simpa using h
            subst this; simp [wN_zero]
  | succ k ih =>
    by_cases h0 : n = 0
    · subst h0; simp [wN_zero]
    · rw [wN_pos h0]
      have := ih (n := n / 16) (by rw [Nat.pow_succ] at h; omega)
      simp; omega
theorem wN_step {n : Nat} (h : n ≠ 0) (ks : List Int) : wN (n / 16) ++ (([65 + ((n % 16 : Nat) : Int)]) ++ ks) = wN n ++ ks := by
  rw [wN_pos h, List.append_assoc]
end Mine
namespace Mine
theorem wN_len_gt {n j : Nat} (h : 16 ^ j ≤ n) : j < (wN n).length := by
  induction j generalizing n with
  | zero =>
    have h0 : n ≠ 0 := by simp at h; omega
    rw [wN_pos h0]; simp
  | succ j ih =>
    rw [Nat.pow_succ] at h
    have hp : 0 < 16 ^ j := Nat.pow_pos (by decide)
    have h0 : n ≠ 0 := by omega
    have := ih (n := n / 16) (by omega)
    rw [wN_pos h0]; simp; omega
theorem wN_len_eq {n k : Nat} (h1 : k = 0 ∨ 16 ^ (k - 1) ≤ n) (h2 : n < 16 ^ k) : (wN n).length = k := by
  have := wN_len h2
  rcases h1 with rfl | h1
  · omega
  · have := wN_len_gt h1; omega
end Mine
namespace Mine
theorem wN_pos_iff {m : Int} (h : 0 ≤ m) : 0 < (wN m.toNat).length ↔ 0 < m := by
  constructor
  · intro hl
    by_cases h0 : m.toNat = 0
    · rw [h0, wN_zero] at hl; simp at hl
    · omega
  · intro hm
    exact wN_len_gt (n := m.toNat) (j := 0) (by simp; omega)
end Mine
end
section
open PySem PySem.W PyProof.Rows PySem.Calls
set_option maxRecDepth 100000
namespace Mine
open PySem.Builtin
theorem no_len_int : typeLookup (.type "int") "__len__" = pure none := by rw [typeLookup_type, builtinLookup_eq_fast]; kernel_rfl
theorem meets_len_int {x : Int} {t : Tok} : Meets («len» ⟨[.int x t], []⟩) (raisesNew "TypeError") := by
  intro prog w A R s hs
  unfold «len»
  refine wpAny_bind (wpAny_of_eq (a := .int x t) rfl ?_)
  refine wpAny_bind (wpAny_callSpecial?_none (typeIs_int _ x t) no_len_int ?_)
  show wpAny _ _ (rule "len.no-len" >>= fun _ => _) _ _ s
  refine wpAny_bind (wpAny_rule ?_)
  refine wpAny_bind (wpAny_typeNameOf_int ?_)
  first
    | exact_raiseError plainExc_TypeError hs.1 hs.2
    | exact wpAny_bind (by exact_raiseError plainExc_TypeError hs.1 hs.2)
theorem len_int {prog : Program} {w : World} {A : Around} {E : Value → Shared → Prop} {s : Shared} {x : Int} {t : Tok} {Q : Value → Shared → Prop} (hh : A.handled = none)
    (h : ∀ h' tk e, Heap.NewExc s.heap h' e "TypeError" → E (.ref e) { s with heap := h', toks := tk }) : wpAny (model prog w) A (call (.builtin "len") [.int x t]) Q E s :=
  call_function_meets (by decide +kernel) (by decide +kernel) (entryFor_of_fast (by kernel_rfl)) (by unfold argsOk; kernel_rfl) meets_len_int ⟨hh, h⟩
end Mine
end
section
open PySem PySem.W PyProof.Rows PySem.Calls
set_option maxRecDepth 100000
namespace Mine
open PyProof.Rows in
theorem caught_here {prog : Program} {w : World} {A₀ : Around} {E : Value → Shared → Prop} {s' : Shared} {base g g₀ h : Heap} {outer : List Env} {L a e : Addr} {m : Str → Option Value} {name : Str} {scope : Scope} {cd : Value}
    {b₀ : Stmt} {suite : List Stmt} {pos np : Pos} {rest : List ExceptHandler} {Q : Flow → Shared → Prop} {news : List (Addr × Obj)} {KF : Frag}
    {p : Program} {loose : List Str} {mean : ExcName → Option Value} {mg mb : Str → Option Value} {x : Str} {X T' : String}
    (nx : Heap.NewExcOf h s'.heap e X) (F : Fr g L h m) (N : News g L h news) (K : Below A₀ base outer g) (XB : KF.In base) (TB : Top p loose mean mg mb base)
    (D : KtsDicts (outer.filterMap (·.frame)) g) (T0 : KtsTurn (outer.filterMap (·.frame)) g₀ g)
    (ex : nsIn KF mainGlobals x = some none) (hv : bootBuiltins x = some (.type T')) (hn' : x ≠ "__name__")
    (hexc : isSubtype (.type T') (.type "BaseException") = pure true) (hnt : isSubtype (.type ((Manifest.find? T').elim "type" fun y => y.metatype)) (.type "tuple") = pure false) (hsub : isSubtype (.type X) (.type T') = pure true)
    (k : ∀ h' g', KtsTurn (outer.filterMap (·.frame)) g₀ g' → Fr g' L h' m → News g' L h' news → Below A₀ base outer g' → KF.In g' → Top p loose mean mg mb g' → KtsDicts (outer.filterMap (·.frame)) g' →
      wpAny (model prog w) ((A₀.deeper (envOf name scope L a cd)).mark (some (.ref e))) (execs (b₀ :: suite) (envOf name scope L a cd)) Q E { s' with heap := h' })
    (hk : scope.kind = .function := by rfl) (hx : (envOf name scope L a cd).kindOf x = some .globalImplicit := by rfl) (hd : (x == ("__debug__" : Str)) = false := by decide)
    (hE : PassesOwnAt (model prog w) ((A₀.deeper (envOf name scope L a cd)).mark (some (.ref e))) (A₀.deeper (envOf name scope L a cd)) (envOf name scope L a cd) E := by passes_own) :
    wpAny (model prog w) (A₀.deeper (envOf name scope L a cd)) (noteFrame (.ref e) (envOf name scope L a cd))
      (fun _ s₂ => wpAny (model prog w) (A₀.deeper (envOf name scope L a cd)) (setFlight (.ref e) none) (fun _ s₃ =>
        wpAny (model prog w) (A₀.deeper (envOf name scope L a cd)) (handleBy (.ref e) (envOf name scope L a cd) (.ExceptHandler (some (.Name x np)) none (b₀ :: suite) pos :: rest)) Q E s₃) E s₂) E s' := by
  have K' := K.push (name := name) (a := a) (cd := cd) F hk
  have hin : ∀ env ∈ (envOf name scope L a cd :: outer), ∀ b, env.frame = some b → b ∈ (envOf name scope L a cd :: outer).filterMap (·.frame) := fun env he b hb => List.mem_filterMap.mpr ⟨env, he, hb⟩
  have st : base.StaysIn (hideAll h ((envOf name scope L a cd :: outer).filterMap (·.frame))) := fun b o q => hideAll_get _ (K'.stays b o q) fun hm => by
    rw [(K'.frames.mem hm).1] at q; cases q
  have hBG : ∀ b o, h.get? b = some o → b ∉ (envOf name scope L a cd :: outer).filterMap (·.frame) → (hideAll h ((envOf name scope L a cd :: outer).filterMap (·.frame))).get? b = some o := fun b o q nm => hideAll_get _ q nm
  have hL : (hideAll h ((envOf name scope L a cd :: outer).filterMap (·.frame))).get? L = none := hideAll_none _ (List.mem_filterMap.mpr ⟨_, .head _, rfl⟩)
  have hl : ∀ q ∈ news, (hideAll h ((envOf name scope L a cd :: outer).filterMap (·.frame))).get? q.1 = some q.2 := fun q hq => by
    refine hideAll_get _ (N q hq).1 fun hm => ?_
    obtain ⟨env, he, hf⟩ := List.mem_filterMap.mp hm
    rcases List.mem_cons.mp he with rfl | he
    · exact (N q hq).2.1 (Option.some.inj hf).symm
    · obtain ⟨o, ho, _⟩ := (K.frames.mem (List.mem_filterMap.mpr ⟨env, he, hf⟩)).2
      rw [(N q hq).2.2] at ho; cases ho
  obtain ⟨ob, vs, he, hcls, hd', h1⟩ := nx.there
  have hsz := (Array.getElem?_eq_some_iff.mp h1).1
  obtain ⟨a0, h0⟩ : ∃ a0, vs[0]? = some a0 := ⟨vs[0]'(by omega), by simp⟩
  have hen : (hideAll h ((envOf name scope L a cd :: outer).filterMap (·.frame))).get? e = none := by
    cases q : (hideAll h ((envOf name scope L a cd :: outer).filterMap (·.frame))).get? e with
    | none => rfl
    | some o => have := of_hideAll _ q; rw [nx.new] at this; cases this
  have hf : (envOf name scope L a cd).frame = some L := rfl
  unfold noteFrame
  simp only [hf]
  refine wpAny_bind (wpAny_field he hd' h1 ?_)
  rw [if_neg (by decide)]
  refine wpAny_newEntryW K'.stack ((funFrames_hide K'.frames hin).of_keeps fun b o hb _ => ⟨o, nx.keeps b o hb, rfl⟩) rfl he (fun b o hb => nx.keeps b o (of_hideAll _ hb)) hen hd' hsz h0 fun h₅ hW => ?_
  obtain ⟨k1, k2, k3, k4⟩ := hW
  rw [hcls] at k3
  have hheld : Heap.FlyingW (hideAll h ((envOf name scope L a cd :: outer).filterMap (·.frame))) (envOf name scope L a cd :: outer) e (.type X) a0 h₅ := ⟨k1, hen, k2, k3⟩
  have hsm₅ : h.UpToSlots h₅ := (Heap.UpToSlots.of_keeps nx.keeps).trans k4
  obtain ⟨g₅, T₅, F₅, K₅⟩ := kts_ground K F hBG k1 hsm₅
  have X₅ : KF.In g₅ := XB.keeps K₅.stays
  have P₅ : TopRead p loose mg mb g₅ := topRead_of (TB.keeps K₅.stays)
  obtain ⟨ob, hob, hobc⟩ := hheld.there
  refine wpAny_handleBy_builtin (X := X) (T := T') (b := true) hexc hnt hsub (name_B F₅ X₅ P₅ ex hv hn' ⟨rfl, ⟨ob, hob, hobc⟩, ?_⟩ hk hx hd)
  refine lands_againW hheld fun h₆ hfl₆ hsm₆ => ?_
  obtain ⟨g₆, T₆, F₆, K₆⟩ := kts_ground K F hBG hfl₆.1 (hsm₅.trans hsm₆)
  have Nl : News g₆ L h₆ news := fun q hq => ⟨hfl₆.1 _ _ (hl q hq), (fun z => by have := hl q hq; rw [z, hL] at this; cases this), T₆.none_ _ (N q hq).2.2⟩
  have X₆ : KF.In g₆ := XB.keeps K₆.stays
  have P₆ : Top p loose mean mg mb g₆ := TB.keeps K₆.stays
  have D₆ : KtsDicts (outer.filterMap (·.frame)) g₆ := D.turn T₆
  exact wpAny_passesOwnAt hE (k h₆ g₆ (T0.trans T₆) F₆ Nl K₆ X₆ P₆ D₆)
theorem isExc_AttributeError : isSubtype (.type "AttributeError") (.type "BaseException") = pure true := by rw [isSubtype_type]; kernel_rfl
theorem notTuple_AttributeError : isSubtype (.type ((Manifest.find? "AttributeError").elim "type" fun y => y.metatype)) (.type "tuple") = pure false := by
  rw [show ((Manifest.find? "AttributeError").elim "type" fun y => y.metatype) = "type" from by decide +kernel, isSubtype_type]; kernel_rfl
theorem boot_AttributeError : bootBuiltins "AttributeError" = some (.type "AttributeError") := by decide +kernel

end Mine
end
section
open PySem PySem.W PyProof.Rows PySem.Calls
set_option maxRecDepth 100000
namespace Mine
open PySem.Builtin
theorem ty_int : typeOf (.type "int") = pure (.type "type") := kitMeta_of (by decide +kernel)
theorem lh_int : typeLookup (.type "int") "__length_hint__" = pure none := am_miss_of_fast (by decide +kernel)
theorem lh_type : typeLookup (.type "type") "__length_hint__" = pure none := am_miss_of_fast (by decide +kernel)
theorem opq_int : opaqueClassAbove (.type "int") = pure none := by unfold opaqueClassAbove; dsimp only; rw [show Manifest.isStub "int" = false from by decide +kernel]; rfl
theorem meets_tga_miss {u : Tok} : Meets («type.__getattribute__» ⟨[.type "int", .str "__length_hint__" u], []⟩) (fun A R s => A.handled = none ∧ ∀ h' tk e t, (∀ b ob, s.heap.get? b = some ob → h'.get? b = some ob) → s.heap.get? e = none → h'.get? e = some { cls := .type "AttributeError", data := .fields #[t, .none, .none, .none, .bool false, .none, unsetMember, unsetMember] } → R (.error (.ref e)) { s with heap := h', toks := tk }) := by
  intro prog w A R s hs
  obtain ⟨hh, h⟩ := hs
  obtain ⟨hp, g, d, tk, os⟩ := s
  have f1 := opq_int
  have f2 := ty_int
  have f3 := lh_type
  have f4 := lh_int
  have f5 : typeNameCut 100 (.type "int") = pure "int" := typeName_int
  unfold «type.__getattribute__»
  repeat (any_goals (first | assumption | wp_step))
  unfold raiseNew
  refine wpAny_bind (wpAny_handled ?_)
  rw [show A.in1.handled = none from hh]
  first
    | refine wpAny_throw ?_
    | refine wpAny_bind (wpAny_pure (wpAny_throw ?_))
  refine h _ _ _ (.ref hp.objs.size) (fun b ob hb => Heap.get?_push_of_some _ (Heap.get?_push_of_some _ hb)) (Heap.get?_none_of_le (by simp)) ?_
  rw [Heap.get?_push_size _ rfl]
  simp only [attrError_no_first]
  rfl
theorem slot_type_ga : Slot "type" "__getattribute__" "type.__getattribute__" := KF.slot_tga
theorem no_hook_type : typeLookup (.type "type") "__getattr__" = pure none := by rw [typeLookup_type, builtinLookup_eq_fast]; kernel_rfl
theorem getAttr_miss_lh {prog : Program} {w : World} {A : Around} {E : Value → Shared → Prop} {s : Shared} {Q : Value → Shared → Prop} (hA : A.handled = none)
    (h : ∀ h' tk e, Heap.NewExcOf s.heap h' e "AttributeError" → E (.ref e) { s with heap := h', toks := tk }) :
    wpAny (model prog w) A (getAttr (.type "int") "__length_hint__" true) Q E s := by
  obtain ⟨hp, g, d, tk, os⟩ := s
  have f1 := sub_AttributeError
  have f2 := ty_int
  have f3 := KF.slot_tga.lookup
  have f4 := KF.slot_tga.bind (.type "int")
  have f5 := no_hook_type
  have hT : ∀ s' : Shared, s'.TypeIs (.type "int") "type" := fun _ => f2
  unfold getAttr getAttrBy
  repeat (any_goals (first | assumption | ((with_reducible show wpAny _ _ (call (Value.builtin "type.__getattribute__") _ _) _ _ _); refine call_meets KF.slot_tga (hT _) KF.entry_tga (KF.args_tga _ _) meets_tga_miss ⟨hA, fun h' tk' e t hk hn he => ?_⟩) | wp_step))
  show wpAny _ _ (getattributeRaised _ _ _ _ _ _ _) _ _ _
  have hTe : Shared.TypeIs { heap := h', gens := g, drawn := d, toks := tk', os := os } (.ref e) "AttributeError" := ⟨_, he, rfl⟩
  have hlack : ∀ {Q' : Bool → Shared → Prop} {E' : Value → Shared → Prop}, Q' true { heap := h', gens := g, drawn := d, toks := tk', os := os } → wpAny (model prog w) A (lacksNameAndObj (.ref e)) Q' E' { heap := h', gens := g, drawn := d, toks := tk', os := os } := by
    intro Q' E' hq
    unfold lacksNameAndObj
    refine wpAny_bind (wpAny_isInstance hTe f1 ?_)
    simp only [Bool.not_true, Bool.false_eq_true, if_false]
    refine wpAny_bind (wpAny_load he ?_)
    exact wpAny_pure hq
  unfold getattributeRaised
  refine wpAny_bind (wpAny_isInstance hTe f1 ?_)
  rw [if_pos rfl]
  unfold hookBehind
  rw [if_neg (by decide)]
  refine wpAny_bind (wpAny_of_eq f5 ?_)
  unfold hookOrError
  dsimp only
  unfold attributeErrorLeaves
  simp only [Bool.not_true, Bool.false_eq_true, if_false, if_true]
  refine wpAny_bind (hlack ?_)
  simp only [if_true]
  unfold getattributeMayRunBare
  refine wpAny_bind (wpAny_bind (wpAny_of_eq (a := true) rfl ?_))
  simp only [if_true]
  refine wpAny_pure ?_
  simp only [Bool.false_eq_true, if_false]
  unfold noteAttr
  refine wpAny_bind (wpAny_bind (hlack ?_))
  simp only [if_true]
  refine wpAny_bind (wpAny_rule ?_)
  refine wpAny_bind (wpAny_typeOf hTe ?_)
  dsimp only
  unfold layMembers
  refine wpAny_bind (wpAny_load he ?_)
  dsimp only
  refine wpAny_update he ?_
  refine wpAny_throw ?_
  refine h _ _ _ ⟨fun b ob hb => ?_, hn, ?_⟩
  · refine (Heap.get?_update_other _ _ ?_).trans (hk b ob hb)
    rintro rfl
    have : hp.get? e = some ob := hb
    rw [show hp.get? e = none from hn] at this; cases this
  · exact ⟨_, _, Heap.get?_update_self _ he rfl, rfl, rfl, rfl⟩
end Mine
end
section
open PySem PySem.W PyProof.Rows PySem.Calls
set_option maxRecDepth 100000
namespace Mine
open PySem.Builtin
/-- an inner iterator that an enumerate may walk: n items, the i-th of P, drawn when the next token is tk -/
structure Nexts (prog : Program) (w : World) (h₀ : Heap) (it : Addr) (n : Nat) (P : Nat → Nat → Value → Prop) (St : Nat → Heap → Prop) : Prop where
  here : ∀ i h, St i h → ∃ o, h.get? it = some o
  keeps : ∀ i h h', St i h → (∀ o, h.get? it = some o → h'.get? it = some o) → (∀ b o, h₀.get? b = some o → h'.get? b = some o) → St i h'
  item : ∀ i (A : Around) (s : Shared) (Q : Value → Shared → Prop) (E : Value → Shared → Prop), i < n → St i s.heap →
    (∀ x h' tk', s.toks ≤ tk' → P i s.toks x → (∀ v, P i s.toks v → v = x) → (s.toks = tk' ∨ s.toks + 1 = tk') → (∃ o, h'.get? it = some o) → St (i + 1) h' → Heap.SameBut it s.heap h' → Q x { s with heap := h', toks := tk' }) → wpAny (model prog w) A (SmallTypes.nextOf (.ref it)) Q E s
  done : ∀ (A : Around) (s : Shared) (Q : Value → Shared → Prop) (E : Value → Shared → Prop), A.handled = none → St n s.heap →
    (∀ h' e, Heap.ExtBut it s.heap h' → (∃ o, h'.get? e = some o ∧ o.cls = .type "StopIteration") → E (.ref e) { s with heap := h' }) → wpAny (model prog w) A (SmallTypes.nextOf (.ref it)) Q E s

theorem nexts_bytes {prog : Program} {w : World} {h₀ : Heap} (it : Addr) (b : Array UInt8) (t : Tok) :
    Nexts prog w h₀ it b.size (fun i tk v => ∃ c, b[i]? = some c ∧ v = .int (c.toNat : Int) tk) (fun i h => KBw.IsBytesIter h it b t i) where
  here := fun i h ⟨o, ho, _⟩ => ⟨o, ho⟩
  keeps := fun i h h' ⟨o, ho, r⟩ k _ => ⟨o, k o ho, r⟩
  item := fun i A s Q E hi hit hQ => by
    obtain ⟨o, ho, hc, hd⟩ := id hit
    have hx : b[i]? = some b[i] := by simp [hi]
    unfold SmallTypes.nextOf
    refine wpAny_bind (wpAny_callSpecial?_slot (name := PySem.Str.ofString "__next__") (KBw.iter_typeIs hit) KBw.slot_next
      (wpAny_call_entry KBw.slot_next (KBw.iter_typeIs hit) KBw.entry_next ?_ (KBw.args_next _)))
    show wpAny _ _ (field (.ref it) 0 >>= _) _ _ s
    refine wpAny_bind (wpAny_field ho hd (x := .bytes b t) rfl ?_)
    show wpAny _ _ (if (Value.bytes b t == Value.none) = true then _ else _) _ _ s
    rw [if_neg (show ¬ ((Value.bytes b t == Value.none) = true) from Bool.false_ne_true)]
    show wpAny _ _ (field (.ref it) 1 >>= _) _ _ s
    refine wpAny_bind (wpAny_field ho hd (x := .int i 0) rfl ?_)
    refine wpAny_bind (wpAny_of_eq (a := b) rfl ?_)
    simp only [Int.toNat_natCast, hx]
    have hst : KBw.IsBytesIter (s.heap.update it (Obj.mapFields (·.setIfInBounds 1 (rawInt ((i : Int) + 1))))) it b t (i + 1) :=
      ⟨_, Heap.get?_update_self _ ho (Obj.isFreed_of_fields (Obj.data_mapFields hd _)), (Obj.cls_mapFields ..).trans hc, by
        rw [Obj.data_mapFields hd]; simp [rawInt]⟩
    refine wpAny_bind (wpAny_setField ho hd (by simp) (wpAny_bind (wpAny_mkInt (wpAny_pure ⟨_, rfl, wpAny_pure (hQ _ _ _ (Nat.le_succ _) ⟨_, hx, rfl⟩ ?_ (.inr rfl) ?_ hst (Heap.SameBut.update ..))⟩))))
    · rintro v ⟨c, hc', rfl⟩
      rw [hx] at hc'; cases hc'; rfl
    · exact ⟨_, hst.choose_spec.1⟩
  done := fun A s Q E hh hit hE => by
    obtain ⟨o, ho, hc, hd⟩ := id hit
    have hx : b[b.size]? = none := by simp
    unfold SmallTypes.nextOf
    refine wpAny_bind (wpAny_callSpecial?_slot (name := PySem.Str.ofString "__next__") (KBw.iter_typeIs hit) KBw.slot_next
      (wpAny_call_entry KBw.slot_next (KBw.iter_typeIs hit) KBw.entry_next ?_ (KBw.args_next _)))
    show wpAny _ _ (field (.ref it) 0 >>= _) _ _ s
    refine wpAny_bind (wpAny_field ho hd (x := .bytes b t) rfl ?_)
    show wpAny _ _ (if (Value.bytes b t == Value.none) = true then _ else _) _ _ s
    rw [if_neg (show ¬ ((Value.bytes b t == Value.none) = true) from Bool.false_ne_true)]
    show wpAny _ _ (field (.ref it) 1 >>= _) _ _ s
    refine wpAny_bind (wpAny_field ho hd (x := .int b.size 0) rfl ?_)
    refine wpAny_bind (wpAny_of_eq (a := b) rfl ?_)
    simp only [Int.toNat_natCast, hx]
    refine wpAny_bind (wpAny_rule (wpAny_bind (wpAny_setField ho hd (by simp) ?_)))
    show wpAny _ _ (newExc (.type "StopIteration") [] >>= _) _ _ _
    refine wpAny_bind ?_
    simp only [newExc, newTuple]
    refine wpAny_bind (wpAny_newObj_type ?_ (by size_fits))
    refine wpAny_bind (m := firstArgMember _ _) (wpAny_of_eq (a := Value.none) (by first | rfl | (simp only [firstArgMember]; rfl)) ?_)
    refine wpAny_newObj_type ?_ (by size_fits)
    simp only [raiseNew]
    refine wpAny_bind (wpAny_handled ?_)
    rw [show A.in1.handled = none from hh]
    refine wpAny_bind (wpAny_pure (wpAny_throw ?_))
    exact hE _ _ (((Heap.SameBut.update ..).extBut.push _).push _) ⟨_, Heap.get?_push_size _ rfl, rfl⟩

theorem nexts_list {prog : Program} {w : World} {h₀ : Heap} (it l : Addr) (items : Array Value) (hl : h₀.IsList l items) :
    Nexts prog w h₀ it items.size (fun i _ v => items[i]? = some v) (fun i h => h.IsListIter it l i ∧ h.IsList l items ∧ it ≠ l) where
  here := fun i h ⟨⟨o, ho, _⟩, _⟩ => ⟨o, ho⟩
  keeps := fun i h h' ⟨⟨o, ho, r⟩, _, ne⟩ k k' => ⟨⟨o, k o ho, r⟩, (by obtain ⟨ol, hol, r⟩ := hl; exact ⟨ol, k' _ _ hol, r⟩), ne⟩
  item := fun i A s Q E hi ⟨hit, hli, ne⟩ hQ => by
    have hx : items[i]? = some items[i] := by simp [hi]
    refine wpAny_nextOf_list_item hit hli hx fun h' hit' hs => ?_
    refine hQ _ _ s.toks (Nat.le_refl _) hx (fun v hv => by rw [hx] at hv; exact (Option.some.inj hv).symm) (.inl rfl) ?_ ⟨hit', ?_, ne⟩ hs
    · obtain ⟨o, ho, _⟩ := hit'; exact ⟨o, ho⟩
    · obtain ⟨ol, hol, r⟩ := hli; exact ⟨ol, (hs.2 l (Ne.symm ne)).trans hol, r⟩
  done := fun A s Q E hh ⟨hit, hli, _⟩ hE => wpAny_nextOf_list_end hh hit hli (by simp) hE
end Mine
end
section
open PySem PySem.W PyProof.Rows PySem.Calls
set_option maxRecDepth 100000
namespace Mine
open PySem.Builtin
section
variable {prog : Program} {w : World} {h₀ : Heap} {it e : Addr} {n : Nat} {P : Nat → Nat → Value → Prop} {St : Nat → Heap → Prop} {A : Around} {E : Value → Shared → Prop} {s : Shared}
theorem enum_body {i : Nat} {old : Value} {Q : Value → Shared → Prop} (W : Nexts prog w h₀ it n P St) (hi : i < n) (he : IsEnum s.heap e it i old) (hst : St i s.heap) (hne : e ≠ it)
    (hQ : ∀ x tk h₁ h', s.toks ≤ tk → P i s.toks x → (s.toks = tk ∨ s.toks + 1 = tk) → IsEnumOut h' e it ((i : Int) + 1) x s.heap.objs.size → St (i + 1) h₁ → (∀ o, h₁.get? it = some o → h'.get? it = some o) →
      h'.get? s.heap.objs.size = some { cls := .type "tuple", data := .seq #[.int i tk, x] } → h'.objs.size = s.heap.objs.size + 1 →
      (∀ b o, b ≠ e → b ≠ it → s.heap.get? b = some o → h'.get? b = some o) → Q (.ref s.heap.objs.size) { s with heap := h', toks := tk + 1 }) :
    wpAny (model prog w) A («enumerate.__next__» ⟨[.ref e], []⟩) (fun fin s' => ∃ v, fin = .done (.ret v) ∧ Q v s') E s := by
  obtain ⟨hp, g, d, tk₀, os⟩ := s
  show wpAny _ _ (field (.ref e) 2 >>= _) _ _ _
  refine wpAny_bind (wpAny_field he rfl (x := .ref it) rfl ?_)
  refine wpAny_bind (W.item i _ _ _ _ hi hst fun x h₁ tk htk hP _ htk2 hit₁ hst₁ hs₁ => ?_)
  replace hs₁ : Heap.SameBut it hp h₁ := hs₁
  have he₁ : IsEnum h₁ e it i old := (hs₁.2 e hne).trans he
  show wpAny _ _ (field (.ref e) 3 >>= _) _ _ ⟨h₁, g, d, tk, os⟩
  refine wpAny_bind (wpAny_field he₁ rfl (x := rawInt i) rfl ?_)
  show wpAny _ _ (field (.ref e) 4 >>= _) _ _ ⟨h₁, g, d, tk, os⟩
  refine wpAny_bind (wpAny_field he₁ rfl (x := .none) rfl ?_)
  show wpAny _ _ (mkInt i >>= _) _ _ ⟨h₁, g, d, tk, os⟩
  refine wpAny_bind (wpAny_mkInt ?_)
  show wpAny _ _ (setField (.ref e) 3 (rawInt ((i : Int) + 1)) >>= _) _ _ ⟨h₁, g, d, tk + 1, os⟩
  refine wpAny_bind (wpAny_setField_rec he₁ (by simp) fun h₂ he₂ hs₂ => ?_)
  replace hs₂ : Heap.SameBut e h₁ h₂ := hs₂
  replace he₂ : IsEnum h₂ e it ((i : Int) + 1) old := he₂
  show wpAny _ _ (setField (.ref e) 4 .none >>= _) _ _ ⟨h₂, g, d, tk + 1, os⟩
  refine wpAny_bind (wpAny_setField_rec he₂ (by simp) fun h₃ he₃ hs₃ => ?_)
  replace hs₃ : Heap.SameBut e h₂ h₃ := hs₃
  replace he₃ : IsEnum h₃ e it ((i : Int) + 1) old := he₃
  show wpAny _ _ (newTuple [.int i tk, x] >>= _) _ _ ⟨h₃, g, d, tk + 1, os⟩
  refine wpAny_bind (wpAny_newTuple ?_)
  have he₄ : IsEnum (h₃.push { cls := .type "tuple", data := .seq #[.int i tk, x] }) e it ((i : Int) + 1) old := Heap.get?_push_of_some _ he₃
  generalize hh₄ : h₃.push { cls := .type "tuple", data := .seq #[.int i tk, x] } = h₄ at he₄
  have hsz : h₃.objs.size = hp.objs.size := by rw [hs₃.1, hs₂.1, hs₁.1]
  have hel : e < hp.objs.size := Heap.lt_size he
  have ht₄ : h₄.get? hp.objs.size = some { cls := .type "tuple", data := .seq #[.int i tk, x] } := by rw [← hh₄, ← hsz]; exact Heap.get?_push_size _ rfl
  have hz₄ : h₄.objs.size = hp.objs.size + 1 := by rw [← hh₄, Heap.size_push, hsz]
  have hk₄ : ∀ b o, b ≠ e → b ≠ it → hp.get? b = some o → h₄.get? b = some o := fun b o hbe hbi hb => by
    rw [← hh₄]; exact Heap.get?_push_of_some _ (hs₃.extBut b o hbe (hs₂.extBut b o hbe (hs₁.extBut b o hbi hb)))
  have hit₄ : ∀ o, h₁.get? it = some o → h₄.get? it = some o := fun o ho => by
    rw [← hh₄]; exact Heap.get?_push_of_some _ (hs₃.extBut it o (Ne.symm hne) (hs₂.extBut it o (Ne.symm hne) ho))
  show wpAny _ _ (SmallTypes.ownedTupleIsFree (.ref e) >>= _) _ _ ⟨h₄, g, d, tk + 1, os⟩
  rw [hsz]
  clear hh₄ he₃ hs₃ he₂ hs₂ he₁ hs₁ hsz h₃ h₂
  refine wpAny_bind ?_
  unfold SmallTypes.ownedTupleIsFree
  refine wpAny_bind (wpAny_field he₄ rfl (x := .none) rfl (wpAny_pure ?_))
  simp only [if_true]
  refine wpAny_bind (wpAny_rule ?_)
  refine wpAny_bind (wpAny_field he₄ rfl (x := old) rfl ?_)
  refine wpAny_bind (wpAny_setField_rec he₄ (by simp) fun h₅ he₅ hs₅ => ?_)
  replace hs₅ : Heap.SameBut e h₄ h₅ := hs₅
  replace he₅ : IsEnum h₅ e it ((i : Int) + 1) x := he₅
  show wpAny _ _ (SmallTypes.ownedTupleHandOut (.ref e) (.ref hp.objs.size) >>= _) _ _ ⟨h₅, g, d, tk + 1, os⟩
  refine wpAny_bind ?_
  unfold SmallTypes.ownedTupleHandOut
  refine wpAny_bind (wpAny_setField_rec he₅ (by simp) fun h₆ he₆ hs₆ => ?_)
  replace hs₆ : Heap.SameBut e h₅ h₆ := hs₆
  replace he₆ : IsEnumOut h₆ e it ((i : Int) + 1) x hp.objs.size := he₆
  refine wpAny_setField_rec he₆ (by simp) fun h₇ he₇ hs₇ => ?_
  replace hs₇ : Heap.SameBut e h₆ h₇ := hs₇
  replace he₇ : IsEnumOut h₇ e it ((i : Int) + 1) x hp.objs.size := he₇
  refine wpAny_bind (wpAny_letGo (wpAny_pure ⟨_, rfl, hQ x tk h₁ h₇ htk hP htk2 he₇ hst₁ ?_ ?_ ?_ ?_⟩))
  · exact fun o ho => hs₇.extBut _ _ (Ne.symm hne) (hs₆.extBut _ _ (Ne.symm hne) (hs₅.extBut _ _ (Ne.symm hne) (hit₄ o ho)))
  · exact hs₇.extBut _ _ (Nat.ne_of_gt hel) (hs₆.extBut _ _ (Nat.ne_of_gt hel) (hs₅.extBut _ _ (Nat.ne_of_gt hel) ht₄))
  · rw [hs₇.1, hs₆.1, hs₅.1, hz₄]
  · exact fun b o hbe hbi hb => hs₇.extBut b o hbe (hs₆.extBut b o hbe (hs₅.extBut b o hbe (hk₄ b o hbe hbi hb)))
theorem enum_next {i : Nat} {old : Value} {Q : Option Value → Shared → Prop} (W : Nexts prog w h₀ it n P St) (hi : i < n) (he : IsEnum s.heap e it i old) (hst : St i s.heap) (hne : e ≠ it)
    (hQ : ∀ x tk h₁ h', s.toks ≤ tk → P i s.toks x → (s.toks = tk ∨ s.toks + 1 = tk) → IsEnumOut h' e it ((i : Int) + 1) x s.heap.objs.size → St (i + 1) h₁ → (∀ o, h₁.get? it = some o → h'.get? it = some o) →
      h'.get? s.heap.objs.size = some { cls := .type "tuple", data := .seq #[.int i tk, x] } → h'.objs.size = s.heap.objs.size + 1 →
      (∀ b o, b ≠ e → b ≠ it → s.heap.get? b = some o → h'.get? b = some o) → Q (some (.ref s.heap.objs.size)) { s with heap := h', toks := tk + 1 }) :
    wpAny (model prog w) A (pyNext (.ref e)) Q E s := by
  have hT : s.TypeIs (.ref e) "enumerate" := ⟨_, he, rfl⟩
  unfold pyNext
  exact wpAny_bind (wpAny_attempt (wpAny_callSpecial?_slot (name := Str.ofString "__next__") hT F.slot_enumerate_next
    (wpAny_call_entry F.slot_enumerate_next hT F.entry_enumerate_next
      (enum_body W hi he hst hne fun x tk h₁ h' a b c d e f g i j => wpAny_pure (hQ x tk h₁ h' a b c d e f g i j)) (F.args_enumerate_next_1 _))))
theorem enum_done {old : Value} {Q : Option Value → Shared → Prop} (W : Nexts prog w h₀ it n P St) (hh : A.handled = none) (he : IsEnum s.heap e it n old) (hst : St n s.heap)
    (hQ : ∀ h', Heap.ExtBut it s.heap h' → Q none { s with heap := h' }) : wpAny (model prog w) A (pyNext (.ref e)) Q E s := by
  have hT : s.TypeIs (.ref e) "enumerate" := ⟨_, he, rfl⟩
  unfold pyNext
  refine wpAny_bind (wpAny_attempt (wpAny_callSpecial?_slot (name := Str.ofString "__next__") hT F.slot_enumerate_next
    (wpAny_call_entry F.slot_enumerate_next hT F.entry_enumerate_next ?_ (F.args_enumerate_next_1 _))))
  show wpAny _ _ (field (.ref e) 2 >>= _) _ _ _
  refine wpAny_bind (wpAny_field he rfl (x := .ref it) rfl ?_)
  refine wpAny_bind (W.done _ _ _ _ hh hst fun h' x he' hx' => ?_)
  obtain ⟨o, ho, hc⟩ := hx'
  refine wpAny_bind (wpAny_isInstance (T := "StopIteration") (b := true) ⟨o, ho, hc⟩ isSubtype_stop ?_)
  exact wpAny_pure (hQ _ he')
end
end Mine
end
section
open PySem PySem.W PyProof.Rows PySem.Calls
set_option maxRecDepth 100000
namespace Mine
open PySem.Builtin
/-- the end of a turn: on to the next, the iterators untouched; or out by a return -/
def TurnEnd (s : Shared) (h₀ : Heap) (L : Addr) (own : List (Addr × Obj)) (J : (Str → Option Value) → Prop) (Q : Flow → Shared → Prop) (f : Flow) (s₃ : Shared) : Prop :=
  match f with
  | .next | .cont => ∃ h₃ tk₃ m₃, s₃ = { s with heap := h₃, toks := tk₃ } ∧ Fr h₀ L h₃ m₃ ∧ News h₀ L h₃ own ∧ J m₃
  | .brk => Q .next s₃
  | .ret v => Q (.ret v) s₃
theorem TurnEnd.next {s : Shared} {h₀ h₃ : Heap} {L : Addr} {own : List (Addr × Obj)} {J : (Str → Option Value) → Prop} {Q : Flow → Shared → Prop} {m₃ : Str → Option Value} {tk₃ : Nat} (F : Fr h₀ L h₃ m₃) (N : News h₀ L h₃ own) (hJ : J m₃) :
    TurnEnd s h₀ L own J Q .next { s with heap := h₃, toks := tk₃ } := ⟨_, _, _, rfl, F, N, hJ⟩
section
variable {prog : Program} {w : World} {h₀ : Heap} {it e : Addr} {n : Nat} {P : Nat → Nat → Value → Prop} {St : Nat → Heap → Prop} {A : Around} {E : Value → Shared → Prop} {s : Shared} {env : Env} {Q : Flow → Shared → Prop}
  {xi xv : Str} {pi pv pt : Pos} {x1 : Nat} {body orelse : List Stmt} {m : Str → Option Value}
theorem for_enum (W : Nexts prog w h₀ it n P St) (hh : A.handled = none) (hxi : env.kindOf xi = some .local) (hxv : env.kindOf xv = some .local)
    (hp : (env.scope.kind == .class || (env.scope.kind == .module && env.locals != env.globals)) = false)
    (he : IsEnum s.heap e it 0 .none) (hst : St 0 s.heap) (F : Fr h₀ env.locals s.heap m) (hne : e ≠ it) (e0 : h₀.get? e = none) (it0 : h₀.get? it = none) (eL : e ≠ env.locals) (itL : it ≠ env.locals)
    (n₀ : Nat) (hn₀ : n₀ ≤ s.toks) (J : Nat → (Str → Option Value) → Prop) (h0 : J 0 m)
    (turn : ∀ i x tk tk' tk₂ m₁ h₁ oe oit, i < n → n₀ ≤ tk → tk ≤ tk' → P i tk x → J i m₁ → Fr h₀ env.locals h₁ (fun y => if y = xv then some x else if y = xi then some (.int (i : Int) tk') else m₁ y) → News h₀ env.locals h₁ [(e, oe), (it, oit)] →
      wpAny (model prog w) A (execs body env) (TurnEnd s h₀ env.locals [(e, oe), (it, oit)] (J (i + 1)) Q) E { s with heap := h₁, toks := tk₂ })
    (fin : ∀ m₁ h₁ tk₁, J n m₁ → Fr h₀ env.locals h₁ m₁ → wpAny (model prog w) A (execs orelse env) Q E { s with heap := h₁, toks := tk₁ })
    (hE : PassesOwn (model prog w) A env E) :
    codeAny (model prog w) A (.forLoop (.Tuple [.Name xi pi, .Name xv pv] x1 pt) (.ref e) body orelse env) (fun r s' => match r with | .ok f => Q f s' | .error e => cameBackBy (model prog w) A env E e s') s := by
  refine codeAny_forLoop_any
    (fun k s' => ∃ h' tk m' i old, s' = { s with heap := h', toks := tk } ∧ IsEnum h' e it ((i : Nat) : Int) old ∧ St i h' ∧ Fr h₀ env.locals h' m' ∧ J i m' ∧ i ≤ n ∧ n₀ ≤ tk ∧
      k = n + 1 - i) ?_ (n + 1) ⟨s.heap, s.toks, m, 0, .none, rfl, he, hst, F, h0, Nat.zero_le _, hn₀, rfl⟩
  rintro k s' ⟨H, tk₀, m', i, old, rfl, he', hst', F', hJ, hi, htk, rfl⟩
  obtain ⟨oi, hoi⟩ := W.here _ _ hst'
  rcases Nat.lt_or_ge i n with hlt | hge
  · refine enum_next W hlt he' hst' hne fun x tk h₁ h₂ hle hP htk2 heo hst₁ hit₁ ht₂ hz₂ hk₂ => ?_
    dsimp only at *
    refine wpAny_letOwnedTupleGo_enum heo fun h₃ he₃ hs₃ => ?_
    replace hs₃ : Heap.SameBut e h₂ h₃ := hs₃
    have heH : e < H.objs.size := Heap.lt_size he'
    have hiH : it < H.objs.size := Heap.lt_size hoi
    have hLH : env.locals < H.objs.size := F'.ns.lt
    have ht₃ : h₃.IsTuple H.objs.size #[.int i tk, x] := ⟨_, (hs₃.2 _ (Nat.ne_of_gt heH)).trans ht₂, rfl, _, rfl⟩
    have hz₃ : h₃.objs.size = H.objs.size + 1 := hs₃.1.trans hz₂
    refine wpAny_assign_Tuple hh ht₃ rfl rfl fun h₄ hx₄ => ?_
    replace hx₄ : Heap.ExtBut h₃.objs.size h₃ h₄ := hx₄
    have old₄ : ∀ b o, b < H.objs.size → h₃.get? b = some o → h₄.get? b = some o := fun b o hb x => hx₄ b o (by rw [hz₃]; exact Nat.ne_of_lt (Nat.lt_succ_of_lt hb)) x
    have up : ∀ b o, b ≠ e → b ≠ it → H.get? b = some o → h₄.get? b = some o := fun b o hbe hbi hb => old₄ b o (Heap.lt_size hb) ((hs₃.2 b hbe).trans (hk₂ b o hbe hbi hb))
    have F₄ : Fr h₀ env.locals h₄ m' := ⟨F'.ns.at fun o x => up _ o (Ne.symm eL) (Ne.symm itL) x, fun b o hb => up b o (fun q => by rw [q, e0] at hb; cases hb) (fun q => by rw [q, it0] at hb; cases hb) (F'.keep b o hb), F'.above⟩
    have hit₄ : ∀ o, h₁.get? it = some o → h₄.get? it = some o := fun o ho => old₄ it o hiH ((hs₃.2 it (Ne.symm hne)).trans (hit₁ o ho))
    have he₄ : IsEnum h₄ e it ((i : Int) + 1) x := old₄ e _ heH he₃
    show wpAny _ A (do holding [x] (assign (.Name xi pi) env (.int i tk)); do holding [] (assign (.Name xv pv) env x); pure ()) _ _ _
    refine wpAny_bind (wpAny_holding (wpAny_assign_Name (wpAny_storeName_local hxi F₄.ns (fun h₅ hn₅ hs₅ => ?_) hp)))
    replace hs₅ : Heap.SameBut env.locals h₄ h₅ := hs₅
    have F₅ := Fr.set F₄ hn₅ hs₅
    refine wpAny_bind (wpAny_holding (wpAny_assign_Name (wpAny_storeName_local hxv hn₅ (fun h₆ hn₆ hs₆ => wpAny_pure ?_) hp)))
    replace hs₆ : Heap.SameBut env.locals h₅ h₆ := hs₆
    have F₆ := Fr.set F₅ hn₆ hs₆
    have he₆ : IsEnum h₆ e it ((i : Int) + 1) x := ((hs₆.2 e eL).trans (hs₅.2 e eL)).trans he₄
    obtain ⟨oit, hoit⟩ := W.here _ _ hst₁
    have hoit₆ : h₆.get? it = some oit := ((hs₆.2 it itL).trans (hs₅.2 it itL)).trans (hit₄ _ hoit)
    have N₆ : News h₀ env.locals h₆ [(e, { cls := .type "enumerate", dict := none, data := .fields #[.none, .bool false, .ref it, rawInt ((i : Int) + 1), .none, x], slots := #[] }), (it, oit)] := by
      intro p hp
      rcases List.mem_cons.mp hp with rfl | hp
      · exact ⟨he₆, eL, e0⟩
      · rw [List.mem_singleton.mp hp]; exact ⟨hoit₆, itL, it0⟩
    refine wpAny_passesOwn hE (wpAny_toks (n := n₀) ?_ (wpAny_mono (turn i x tk₀ tk _ m' h₆ _ oit hlt htk hle hP hJ F₆ N₆) (fun f s₃ h₇ htk₇ => ?_) fun _ _ x _ => x))
    · dsimp only; omega
    · cases f with
      | next =>
        obtain ⟨h₈, tk₈, m₈, rfl, F₈, N₈, J₈⟩ := h₇
        refine ⟨n - i, by omega, h₈, tk₈, m₈, i + 1, x, rfl, ?_, ?_, F₈, J₈, hlt, htk₇, by omega⟩
        · have := (N₈ _ (.head _)).1; exact_mod_cast this
        · refine W.keeps _ _ _ hst₁ (fun o ho => ?_) F₈.keep
          rw [hoit] at ho; cases ho
          exact (N₈ _ (.tail _ (.head _))).1
      | cont =>
        obtain ⟨h₈, tk₈, m₈, rfl, F₈, N₈, J₈⟩ := h₇
        refine ⟨n - i, by omega, h₈, tk₈, m₈, i + 1, x, rfl, ?_, ?_, F₈, J₈, hlt, htk₇, by omega⟩
        · have := (N₈ _ (.head _)).1; exact_mod_cast this
        · refine W.keeps _ _ _ hst₁ (fun o ho => ?_) F₈.keep
          rw [hoit] at ho; cases ho
          exact (N₈ _ (.tail _ (.head _))).1
      | brk => exact h₇
      | ret v => exact h₇
  · have hin : i = n := by omega
    subst hin
    refine enum_done W hh he' hst' fun h₁ hx₁ => ?_
    have hx₁' : Heap.ExtBut it H h₁ := hx₁
    refine wpAny_passesOwn hE (fin m' h₁ tk₀ hJ ⟨F'.ns.at fun o x => hx₁' _ o (Ne.symm itL) x, fun b o hb => hx₁' b o (fun q => by rw [q, it0] at hb; cases hb) (F'.keep b o hb), F'.above⟩)
end
end Mine
end
section
open PySem PySem.W PyProof.Rows PySem.Calls
set_option maxRecDepth 100000
namespace Mine
open PySem.Builtin
theorem is_ints {M : Model} {A : Around} {E : Value → Shared → Prop} {s : Shared} {p q : Int} {t u : Tok} {Q : Value → Shared → Prop} (ht : t ≠ 0) (hu : u ≠ 0) (htu : t ≠ u) (h0 : 0 ≤ p) (h1 : p ≤ 255)
    (h : Q (.bool (decide (p = q))) s) : wpAny M A (compareOp .Is (.int p t) (.int q u)) Q E s := by
  show wpAny M A (do return .bool (← isSame (.int p t) (.int q u))) Q E s
  refine wpAny_bind ?_
  unfold isSame
  dsimp only
  by_cases e : p = q
  · subst e
    have hs : smallInt p = true := by unfold smallInt; simp; omega
    rw [if_pos (by simp [hs])]
    unfold isSame.cachedInt
    rw [if_neg (by simp [ht, hu])]
    refine wpAny_bind (wpAny_rule (wpAny_pure (wpAny_pure ?_)))
    simpa using h
  · rw [if_neg (by simp [e])]
    unfold isSame.created
    rw [if_neg (by simp [ht, hu]), if_neg (by simp [htu]), if_pos (by simp [e])]
    refine wpAny_pure (wpAny_pure ?_)
    simpa [e] using h
set_option maxHeartbeats 1000000 in
theorem meets_enumerate_newB (b : Array UInt8) (t : Tok) :
    Meets (Builtin.«enumerate.__new__» ⟨[.type "enumerate", .bytes b t], []⟩) (fun _ R s =>
      R (.ok (.ret (.ref (s.heap.push { cls := .type "bytes_iterator", data := .fields #[.bytes b t, .int 0 0] }).objs.size)))
        { s with heap := (s.heap.push { cls := .type "bytes_iterator", data := .fields #[.bytes b t, .int 0 0] }).push { cls := .type "enumerate", data := .fields #[.none, .bool false, .ref s.heap.objs.size, rawInt 0, .none, .none] } }) :=
  .of_wp fun prog w A R s h => by
    obtain ⟨hp, g, d, tk, os⟩ := s
    have hsub := sub_enumerate
    wp_walk
    refine wpAny_stack_any fun st => wpAny_pure ?_
    split
    · rename_i c _ _ _ _ _
      cases (c == Value.type "enumerate")
      · wp_walk using KBw.pyIter_bytes
        exact ⟨_, rfl, h⟩
      · wp_walk using KBw.pyIter_bytes
        exact ⟨_, rfl, h⟩
    · wp_walk using KBw.pyIter_bytes
      exact ⟨_, rfl, h⟩
theorem enumerate_bytes {prog : Program} {w : World} {A : Around} {E : Value → Shared → Prop} {s : Shared} {b : Array UInt8} {t : Tok} {Q : Value → Shared → Prop}
    (h : ∀ h', IsEnum h' (s.heap.objs.size + 1) s.heap.objs.size 0 .none → KBw.IsBytesIter h' s.heap.objs.size b t 0 → s.heap.StaysIn h' → Q (.ref (s.heap.objs.size + 1)) { s with heap := h' }) :
    wpAny (model prog w) A (call (.type "enumerate") [.bytes b t]) Q E s := by
  refine callType_new F.called_enumerate (by decide) (F.typeCall_enumerate_1 _) (F.newCall_enumerate_1 _) (fun obj => F.args_object_init_2 obj _) F.entry_enumerate_new
    (meets_enumerate_newB b t) ?_
  have hz : (s.heap.push { cls := .type "bytes_iterator", data := .fields #[.bytes b t, .int 0 0] }).objs.size = s.heap.objs.size + 1 := Heap.size_push ..
  show _ ∧ _
  rw [hz]
  have he : IsEnum ((s.heap.push { cls := .type "bytes_iterator", data := .fields #[.bytes b t, .int 0 0] }).push
      { cls := .type "enumerate", data := .fields #[.none, .bool false, .ref s.heap.objs.size, rawInt 0, .none, .none] }) (s.heap.objs.size + 1) s.heap.objs.size 0 .none := by
    have := Heap.get?_push_size (s.heap.push { cls := .type "bytes_iterator", data := .fields #[.bytes b t, .int 0 0] })
      (o := { cls := .type "enumerate", data := .fields #[.none, .bool false, .ref s.heap.objs.size, rawInt 0, .none, .none] }) rfl
    rw [hz] at this; exact this
  exact ⟨⟨_, he, rfl⟩, h _ he ⟨_, Heap.get?_push_of_some _ (Heap.get?_push_size _ rfl), rfl, rfl⟩ fun b o y => Heap.get?_push_of_some _ (Heap.get?_push_of_some _ y)⟩
end Mine
namespace Mine
theorem fresh_at {h₀ h : Heap} {L a : Addr} {m : Str → Option Value} (F : Fr h₀ L h m) (ha : h.objs.size ≤ a) : h₀.get? a = none ∧ a ≠ L := by
  refine ⟨?_, fun q => ?_⟩
  · cases q : h₀.get? a with
    | none => rfl
    | some o => exact absurd (Heap.lt_size (F.keep _ _ q)) (Nat.not_lt.mpr ha)
  · exact absurd F.ns.lt (Nat.not_lt.mpr (q ▸ ha))
theorem stayF {h₀ h h' : Heap} {L : Addr} {m : Str → Option Value} (F : Fr h₀ L h m) (st : h.StaysIn h') : Fr h₀ L h' m := by
  obtain ⟨oL, es, ep, hL, hr⟩ := F.ns
  exact ⟨⟨oL, es, ep, st _ _ hL, hr⟩, fun b o e => st _ _ (F.keep b o e), F.above⟩
theorem stayN {h₀ h h' : Heap} {L : Addr} {news : List (Addr × Obj)} (N : News h₀ L h news) (st : h.StaysIn h') : News h₀ L h' news :=
  fun p hp => ⟨st _ _ (N p hp).1, (N p hp).2⟩
structure EnumB (h₀ : Heap) (L : Addr) (h : Heap) (e it : Addr) (b : Array UInt8) (t : Tok) : Prop where
  he : IsEnum h e it 0 .none
  hit : KBw.IsBytesIter h it b t 0
  ne : e ≠ it
  e0 : h₀.get? e = none
  it0 : h₀.get? it = none
  eL : e ≠ L
  itL : it ≠ L
theorem enumerate_bytesK {prog : Program} {w : World} {A : Around} {E : Value → Shared → Prop} {s : Shared} {b : Array UInt8} {t : Tok} {Q : Value → Shared → Prop} {h₀ : Heap} {L : Addr} {m : Str → Option Value} {news : List (Addr × Obj)} (F : Fr h₀ L s.heap m) (N : News h₀ L s.heap news)
    (h : ∀ h' e it, Fr h₀ L h' m → News h₀ L h' news → EnumB h₀ L h' e it b t → Q (.ref e) { s with heap := h' }) :
    wpAny (model prog w) A (call (.type "enumerate") [.bytes b t]) Q E s :=
  enumerate_bytes fun h' he hit st => h h' _ _ (stayF F st) (stayN N st) ⟨he, hit, Nat.succ_ne_self _, (fresh_at F (Nat.le_succ _)).1, (fresh_at F (Nat.le_refl _)).1, (fresh_at F (Nat.le_succ _)).2, (fresh_at F (Nat.le_refl _)).2⟩
structure EnumL (h₀ : Heap) (L : Addr) (h : Heap) (e it l : Addr) (items : Array Value) : Prop where
  he : IsEnum h e it 0 .none
  hit : h.IsListIter it l 0 ∧ h.IsList l items ∧ it ≠ l
  ne : e ≠ it
  e0 : h₀.get? e = none
  it0 : h₀.get? it = none
  eL : e ≠ L
  itL : it ≠ L
theorem enumerate_listK {prog : Program} {w : World} {A : Around} {E : Value → Shared → Prop} {s : Shared} {l : Addr} {items : Array Value} {Q : Value → Shared → Prop} {h₀ : Heap} {L : Addr} {m : Str → Option Value} {news : List (Addr × Obj)} (hl : h₀.IsList l items) (F : Fr h₀ L s.heap m) (N : News h₀ L s.heap news)
    (h : ∀ h' e it, Fr h₀ L h' m → News h₀ L h' news → EnumL h₀ L h' e it l items → Q (.ref e) { s with heap := h' }) :
    wpAny (model prog w) A (call (.type "enumerate") [.ref l]) Q E s := by
  have hls : s.heap.IsList l items := by obtain ⟨ol, hol, r⟩ := hl; exact ⟨ol, F.keep _ _ hol, r⟩
  refine call_enumerate_list hls fun h' he hit _ st => h h' _ _ (stayF F st) (stayN N st) ⟨he, ⟨hit, ?_, ?_⟩, Nat.succ_ne_self _, (fresh_at F (Nat.le_succ _)).1, (fresh_at F (Nat.le_refl _)).1, (fresh_at F (Nat.le_succ _)).2, (fresh_at F (Nat.le_refl _)).2⟩
  · obtain ⟨ol, hol, r⟩ := hls; exact ⟨ol, st _ _ hol, r⟩
  · intro q
    obtain ⟨ol, hol, r⟩ := hls
    exact absurd (Heap.lt_size hol) (by rw [← q]; exact Nat.lt_irrefl _)
end Mine
namespace Mine
/-- a token that stands: not nought, and drawn before -/
def TokOk (u : Tok) (s : Shared) : Prop := @LT.lt Nat _ 0 u ∧ @LT.lt Nat _ u s.toks
theorem TokOk.le {u : Tok} {s : Shared} (h : TokOk u s) {k : Nat} (hk : s.toks ≤ k) : u + 1 ≤ k := Nat.le_trans h.2 hk
theorem TokOk.is {M : Model} {A : Around} {E : Value → Shared → Prop} {s₀ s : Shared} {p q : Int} {t u : Tok} {Q : Value → Shared → Prop} (hu : TokOk u s₀) (ht : u + 1 ≤ t) (h0 : 0 ≤ p) (h1 : p ≤ 255)
    (h : Q (.bool (decide (p = q))) s) : wpAny M A (compareOp .Is (.int p t) (.int q u)) Q E s := by
  have a : @LT.lt Nat _ 0 u := hu.1
  have b : @LE.le Nat _ (u + 1) t := ht
  exact is_ints (fun z => by have z' : @Eq Nat t 0 := z; omega) (fun z => by have z' : @Eq Nat u 0 := z; omega) (fun z => by have z' : @Eq Nat t u := z; omega) h0 h1 h
end Mine
namespace Mine
theorem TokOk.mono {u : Tok} {s s' : Shared} (h : TokOk u s) (hk : s.toks ≤ s'.toks) : TokOk u s' := ⟨h.1, Nat.lt_of_lt_of_le h.2 hk⟩
end Mine
end
section
open PySem PySem.W PyProof.Rows PySem.Calls
set_option maxRecDepth 100000
namespace Mine
open PySem.Builtin
/-- an iterator that a for walks: n items, the i-th of P, drawn when the next token is tk -/
structure Steps (prog : Program) (w : World) (A : Around) (h₀ : Heap) (it : Addr) (n : Nat) (P : Nat → Nat → Value → Prop) (St : Nat → Heap → Prop) : Prop where
  here : ∀ i h, St i h → ∃ o, h.get? it = some o
  keeps : ∀ i h h', St i h → (∀ o, h.get? it = some o → h'.get? it = some o) → (∀ b o, h₀.get? b = some o → h'.get? b = some o) → St i h'
  item : ∀ i (s : Shared) (Q : Option Value → Shared → Prop) (E : Value → Shared → Prop), i < n → St i s.heap →
    (∀ x h' tk', s.toks ≤ tk' → P i s.toks x → St (i + 1) h' → (∀ b o, b ≠ it → s.heap.get? b = some o → h'.get? b = some o) → Q (some x) { s with heap := h', toks := tk' }) → wpAny (model prog w) A (pyNext (.ref it)) Q E s
  done : ∀ (s : Shared) (Q : Option Value → Shared → Prop) (E : Value → Shared → Prop), St n s.heap →
    (∀ h' tk', s.toks ≤ tk' → Heap.ExtBut it s.heap h' → Q none { s with heap := h', toks := tk' }) → wpAny (model prog w) A (pyNext (.ref it)) Q E s
theorem steps_bytes {prog : Program} {w : World} {A : Around} {h₀ : Heap} (hh : A.handled = none) (it : Addr) (b : Array UInt8) (t : Tok) :
    Steps prog w A h₀ it b.size (fun i tk v => ∃ c, b[i]? = some c ∧ v = .int (c.toNat : Int) tk) (fun i h => KBw.IsBytesIter h it b t i) where
  here := fun i h ⟨o, ho, _⟩ => ⟨o, ho⟩
  keeps := fun i h h' ⟨o, ho, r⟩ k _ => ⟨o, k o ho, r⟩
  item := fun i s Q E hi hit hQ => by
    have hx : b[i]? = some b[i] := by simp [hi]
    exact KBw.next_item hit hx fun h' hit' hs => hQ _ _ _ (Nat.le_succ _) ⟨_, hx, rfl⟩ hit' fun b o hb e => hs.extBut b o hb e
  done := fun s Q E hit hQ => KBw.next_end hh hit (by simp) fun h' he => hQ h' s.toks (Nat.le_refl _) he
theorem steps_list {prog : Program} {w : World} {A : Around} {h₀ : Heap} (hh : A.handled = none) (it l : Addr) (items : Array Value) (hl : h₀.IsList l items) :
    Steps prog w A h₀ it items.size (fun i _ v => items[i]? = some v) (fun i h => h.IsListIter it l i ∧ h.IsList l items ∧ it ≠ l) where
  here := fun i h ⟨⟨o, ho, _⟩, _⟩ => ⟨o, ho⟩
  keeps := fun i h h' ⟨⟨o, ho, r⟩, _, ne⟩ k k' => ⟨⟨o, k o ho, r⟩, (by obtain ⟨ol, hol, r⟩ := hl; exact ⟨ol, k' _ _ hol, r⟩), ne⟩
  item := fun i s Q E hi ⟨hit, hli, ne⟩ hQ => by
    have hx : items[i]? = some items[i] := by simp [hi]
    refine wpAny_pyNext_list_item hit hli hx fun h' hit' hs => hQ _ _ s.toks (Nat.le_refl _) hx ⟨hit', ?_, ne⟩ fun b o hb e => hs.extBut b o hb e
    obtain ⟨ol, hol, r⟩ := hli; exact ⟨ol, (hs.2 l (Ne.symm ne)).trans hol, r⟩
  done := fun s Q E ⟨hit, hli, _⟩ hQ => wpAny_pyNext_list_end hh hit hli (by simp) fun h' he => hQ h' s.toks (Nat.le_refl _) he
theorem steps_range {prog : Program} {w : World} {A : Around} {h₀ : Heap} (hh : A.handled = none) (it : Addr) (a : Int) (n : Nat) :
    Steps prog w A h₀ it n (fun i _ v => ∃ t, v = .int (a + (i : Int)) t) (fun i h => IsRangeIter h it (a + (i : Nat) * 1) ((n : Int) - (i : Nat)) 1) where
  here := fun i h st => ⟨_, st⟩
  keeps := fun i h h' st k _ => k _ st
  item := fun i s Q E hi st hQ => wpAny_toks (n := s.toks) (Nat.le_refl _) ((LCg.range_walks hh a n).item i s _ _ hi st fun v h' tk hP hst hk htk => hQ v h' tk htk hP hst fun b o hb e => hk b o (by simpa using hb) e)
  done := fun s Q E st hQ => wpAny_toks (n := s.toks) (Nat.le_refl _) ((LCg.range_walks hh a n).done s _ _ st fun h' tk hk htk => hQ h' tk htk fun b o hb e => hk b o (by simpa using hb) e)
section
variable {prog : Program} {w : World} {h₀ : Heap} {it : Addr} {n : Nat} {P : Nat → Nat → Value → Prop} {St : Nat → Heap → Prop} {A : Around} {E : Value → Shared → Prop} {s : Shared} {env : Env} {Q : Flow → Shared → Prop}
  {xv : Str} {pv : Pos} {body orelse : List Stmt} {m : Str → Option Value}
theorem for_each (W : Steps prog w A h₀ it n P St) (hxv : env.kindOf xv = some .local)
    (hp : (env.scope.kind == .class || (env.scope.kind == .module && env.locals != env.globals)) = false)
    {news : List (Addr × Obj)} (hst : St 0 s.heap) (F : Fr h₀ env.locals s.heap m) (N : News h₀ env.locals s.heap news) (it0 : h₀.get? it = none) (itL : it ≠ env.locals) (nit : ∀ p ∈ news, p.1 ≠ it)
    (n₀ : Nat) (hn₀ : n₀ ≤ s.toks) (J : Nat → (Str → Option Value) → Prop) (h0 : J 0 m)
    (turn : ∀ i x tk tk₂ m₁ h₁ oit, i < n → n₀ ≤ tk → P i tk x → J i m₁ → Fr h₀ env.locals h₁ (fun y => if y = xv then some x else m₁ y) → News h₀ env.locals h₁ ((it, oit) :: news) →
      wpAny (model prog w) A (execs body env) (TurnEnd s h₀ env.locals ((it, oit) :: news) (J (i + 1)) Q) E { s with heap := h₁, toks := tk₂ })
    (fin : ∀ m₁ h₁ tk₁, J n m₁ → Fr h₀ env.locals h₁ m₁ → News h₀ env.locals h₁ news → wpAny (model prog w) A (execs orelse env) Q E { s with heap := h₁, toks := tk₁ })
    (hE : PassesOwn (model prog w) A env E) :
    codeAny (model prog w) A (.forLoop (.Name xv pv) (.ref it) body orelse env) (fun r s' => match r with | .ok f => Q f s' | .error e => cameBackBy (model prog w) A env E e s') s := by
  refine codeAny_forLoop
    (fun k s' => ∃ h' tk m' i, s' = { s with heap := h', toks := tk } ∧ St i h' ∧ Fr h₀ env.locals h' m' ∧ News h₀ env.locals h' news ∧ J i m' ∧ i ≤ n ∧ n₀ ≤ tk ∧
      k = n + 1 - i) ?_ (n + 1) ⟨s.heap, s.toks, m, 0, rfl, hst, F, N, h0, Nat.zero_le _, hn₀, rfl⟩
  rintro k s' ⟨H, tk₀, m', i, rfl, hst', F', N', hJ, hi, htk, rfl⟩
  rcases Nat.lt_or_ge i n with hlt | hge
  · refine W.item i _ _ _ hlt hst' fun x h₁ tk₁ hle hP hst₁ hs₁ => ?_
    dsimp only at *
    have F₁ : Fr h₀ env.locals h₁ m' := ⟨F'.ns.at fun o x => hs₁ _ o (Ne.symm itL) x, fun b o hb => hs₁ b o (fun q => by rw [q, it0] at hb; cases hb) (F'.keep b o hb), F'.above⟩
    refine wpAny_assign_Name (wpAny_storeName_local hxv F₁.ns (fun h₆ hn₆ hs₆ => ?_) hp)
    replace hs₆ : Heap.SameBut env.locals h₁ h₆ := hs₆
    have F₆ := Fr.set F₁ hn₆ hs₆
    obtain ⟨oit, hoit⟩ := W.here _ _ hst₁
    have hoit₆ : h₆.get? it = some oit := (hs₆.2 it itL).trans hoit
    have N₆ : News h₀ env.locals h₆ ((it, oit) :: news) := by
      intro p hp
      rcases List.mem_cons.mp hp with rfl | hp
      · exact ⟨hoit₆, itL, it0⟩
      · exact ⟨(hs₆.2 _ (N' p hp).2.1).trans (hs₁ _ _ (nit p hp) (N' p hp).1), (N' p hp).2⟩
    refine wpAny_passesOwn hE (wpAny_toks (n := n₀) ?_ (wpAny_mono (turn i x tk₀ _ m' h₆ oit hlt htk hP hJ F₆ N₆) (fun f s₃ h₇ htk₇ => ?_) fun _ _ x _ => x))
    · dsimp only; omega
    · cases f with
      | next =>
        obtain ⟨h₈, tk₈, m₈, rfl, F₈, N₈, J₈⟩ := h₇
        refine ⟨n - i, by omega, h₈, tk₈, m₈, i + 1, rfl, ?_, F₈, (fun p hp => N₈ p (.tail _ hp)), J₈, hlt, htk₇, by omega⟩
        refine W.keeps _ _ _ hst₁ (fun o ho => ?_) F₈.keep
        rw [hoit] at ho; cases ho
        exact (N₈ _ (.head _)).1
      | cont =>
        obtain ⟨h₈, tk₈, m₈, rfl, F₈, N₈, J₈⟩ := h₇
        refine ⟨n - i, by omega, h₈, tk₈, m₈, i + 1, rfl, ?_, F₈, (fun p hp => N₈ p (.tail _ hp)), J₈, hlt, htk₇, by omega⟩
        refine W.keeps _ _ _ hst₁ (fun o ho => ?_) F₈.keep
        rw [hoit] at ho; cases ho
        exact (N₈ _ (.head _)).1
      | brk => exact h₇
      | ret v => exact h₇
  · have hin : i = n := by omega
    subst hin
    refine W.done _ _ _ hst' fun h₁ tk₁ _ hx₁ => ?_
    have hx₁' : Heap.ExtBut it H h₁ := hx₁
    refine wpAny_passesOwn hE (fin m' h₁ tk₁ hJ ⟨F'.ns.at fun o x => hx₁' _ o (Ne.symm itL) x, fun b o hb => hx₁' b o (fun q => by rw [q, it0] at hb; cases hb) (F'.keep b o hb), F'.above⟩ (fun p hp => ⟨hx₁' _ _ (nit p hp) (N' p hp).1, (N' p hp).2⟩))
structure ItR (h₀ : Heap) (L : Addr) (news : List (Addr × Obj)) (h : Heap) (it : Addr) (a : Int) (n : Nat) : Prop where
  hit : IsRangeIter h it (a + ((0 : Nat) : Int) * 1) ((n : Int) - ((0 : Nat) : Int)) 1
  it0 : h₀.get? it = none
  itL : it ≠ L
  nit : ∀ p ∈ news, p.1 ≠ it
theorem iter_rangeK {r : Addr} {a b : Int} {t u v : Tok} {L : Addr} {Q : Value → Shared → Prop} {news : List (Addr × Obj)} (F : Fr h₀ L s.heap m) (N : News h₀ L s.heap news) (hr : IsRange s.heap r a b 1 t u v) (hsm : Builtin.Range.small a b 1 = true)
    (h : ∀ h' it, Fr h₀ L h' m → News h₀ L h' news → ItR h₀ L news h' it a (b - a).toNat → Q (.ref it) { s with heap := h' }) : wpAny (model prog w) A (pyIter (.ref r)) Q E s := by
  refine wpAny_pyIter_range hr hsm (h _ _ (stayF F fun b o e => Heap.get?_push_of_some _ e) (stayN N fun b o e => Heap.get?_push_of_some _ e) ⟨?_, (fresh_at F (Nat.le_refl _)).1, (fresh_at F (Nat.le_refl _)).2, fun p hp => Nat.ne_of_lt (Heap.lt_size (N p hp).1)⟩)
  rw [rangeSize_nat]
  show IsRangeIter _ _ _ _ _
  simpa using Heap.get?_push_size _ rfl
structure ItB (h₀ : Heap) (L : Addr) (news : List (Addr × Obj)) (h : Heap) (it : Addr) (b : Array UInt8) (t : Tok) : Prop where
  hit : KBw.IsBytesIter h it b t 0
  it0 : h₀.get? it = none
  itL : it ≠ L
  nit : ∀ p ∈ news, p.1 ≠ it
theorem iter_bytesK {b : Array UInt8} {t : Tok} {L : Addr} {Q : Value → Shared → Prop} {news : List (Addr × Obj)} (F : Fr h₀ L s.heap m) (N : News h₀ L s.heap news)
    (h : ∀ h' it, Fr h₀ L h' m → News h₀ L h' news → ItB h₀ L news h' it b t → Q (.ref it) { s with heap := h' }) : wpAny (model prog w) A (pyIter (.bytes b t)) Q E s := by
  refine KBw.pyIter_bytes (h _ _ (stayF F fun b o e => Heap.get?_push_of_some _ e) (stayN N fun b o e => Heap.get?_push_of_some _ e) ⟨⟨_, Heap.get?_push_size _ rfl, rfl, rfl⟩, (fresh_at F (Nat.le_refl _)).1, (fresh_at F (Nat.le_refl _)).2, fun p hp => Nat.ne_of_lt (Heap.lt_size (N p hp).1)⟩)
structure ItL (h₀ : Heap) (L : Addr) (news : List (Addr × Obj)) (h : Heap) (it l : Addr) (items : Array Value) : Prop where
  hit : h.IsListIter it l 0 ∧ h.IsList l items ∧ it ≠ l
  it0 : h₀.get? it = none
  itL : it ≠ L
  nit : ∀ p ∈ news, p.1 ≠ it
theorem iter_listK {l : Addr} {items : Array Value} {L : Addr} {Q : Value → Shared → Prop} {news : List (Addr × Obj)} (hl : h₀.IsList l items) (F : Fr h₀ L s.heap m) (N : News h₀ L s.heap news)
    (h : ∀ h' it, Fr h₀ L h' m → News h₀ L h' news → ItL h₀ L news h' it l items → Q (.ref it) { s with heap := h' }) : wpAny (model prog w) A (pyIter (.ref l)) Q E s := by
  have hls : s.heap.IsList l items := by obtain ⟨ol, hol, r⟩ := hl; exact ⟨ol, F.keep _ _ hol, r⟩
  refine wpAny_pyIter_list hls (h _ _ (stayF F fun b o e => Heap.get?_push_of_some _ e) (stayN N fun b o e => Heap.get?_push_of_some _ e) ⟨⟨⟨_, Heap.get?_push_size _ rfl, rfl, rfl⟩, ?_, ?_⟩, (fresh_at F (Nat.le_refl _)).1, (fresh_at F (Nat.le_refl _)).2, fun p hp => Nat.ne_of_lt (Heap.lt_size (N p hp).1)⟩)
  · obtain ⟨ol, hol, r⟩ := hls; exact ⟨ol, Heap.get?_push_of_some _ hol, r⟩
  · intro q
    obtain ⟨ol, hol, r⟩ := hls
    exact absurd (Heap.lt_size hol) (by rw [← q]; exact Nat.lt_irrefl _)
end
end Mine
end
section
open PySem PySem.W PyProof.Rows PySem.Calls
set_option maxRecDepth 100000
namespace Mine
open PySem.Builtin
/-- a list that holds the one int d -/
def OneAt (h : Heap) (a : Addr) (d : Int) : Prop := ∃ t, h.IsList a #[.int d t]
/-- a list of lists of one int each -/
def RowIs (h : Heap) (items : Array Value) (ds : List Int) : Prop := items.size = ds.length ∧ ∀ (k : Nat) v, items[k]? = some v → ∃ r d, v = .ref r ∧ OneAt h r d ∧ ds[k]? = some d
def RowAt (h : Heap) (R : Addr) (ds : List Int) : Prop := ∃ items : Array Value, h.IsList R items ∧ RowIs h items ds
theorem isList_up {h h' : Heap} {a : Addr} {items : Array Value} (x : h.IsList a items) (k : ∀ b o, h.get? b = some o → h'.get? b = some o) : h'.IsList a items := by
  obtain ⟨o, ho, r⟩ := x; exact ⟨o, k _ _ ho, r⟩
theorem OneAt.up {h h' : Heap} {a : Addr} {d : Int} (x : OneAt h a d) (k : ∀ b o, h.get? b = some o → h'.get? b = some o) : OneAt h' a d := by
  obtain ⟨t, x⟩ := x; exact ⟨t, isList_up x k⟩
theorem RowIs.up {h h' : Heap} {items : Array Value} {ds : List Int} (x : RowIs h items ds) (k : ∀ b o, h.get? b = some o → h'.get? b = some o) : RowIs h' items ds :=
  ⟨x.1, fun i v hv => by obtain ⟨r, d, e, o, q⟩ := x.2 i v hv; exact ⟨r, d, e, o.up k, q⟩⟩
theorem RowAt.up {h h' : Heap} {R : Addr} {ds : List Int} (x : RowAt h R ds) (k : ∀ b o, h.get? b = some o → h'.get? b = some o) : RowAt h' R ds := by
  obtain ⟨items, a, b⟩ := x; exact ⟨items, isList_up a k, b.up k⟩
section
variable {prog : Program} {w : World} {A : Around} {E : Value → Shared → Prop} {s : Shared} {r B : Addr} {d c : Int} {Q : Value → Shared → Prop}
theorem is_ones (hr : OneAt s.heap r d) (hB : OneAt s.heap B c) (h : ∀ z : Bool, (z = true → d = c) → Q (.bool z) s) : wpAny (model prog w) A (compareOp .Is (.ref r) (.ref B)) Q E s := by
  obtain ⟨t, o, ho, hc, n, hd⟩ := hr
  obtain ⟨u, o', ho', hc', n', hd'⟩ := hB
  by_cases e : r = B
  · subst e
    rw [ho] at ho'; cases ho'
    rw [hd] at hd'
    refine wpAny_is_ref_self (h true fun _ => ?_)
    cases hd'; rfl
  · exact wpAny_is_ref_other e ho ho' (by rw [hc]; decide) (h false fun z => by cases z)
theorem eq_ones (hr : OneAt s.heap r d) (hB : OneAt s.heap B c) (hu : A.units + 64 < cLine) (h : Q (.bool (decide (d = c))) s) : wpAny (model prog w) A (compareOp .Eq (.ref r) (.ref B)) Q E s := by
  obtain ⟨t, hr⟩ := hr
  obtain ⟨u, hB⟩ := hB
  refine eq_intsK (vs := [.int d t]) (us := [.int c u]) (ns := [d]) (ms := [c]) hr ?_ hB ?_ hu ?_
  · exact .cons d t .nil
  · exact .cons c u .nil
  · have e : decide ([d] = [c]) = decide (d = c) := by simp
    rw [e]; exact h
end
end Mine
end
section
open PySem PySem.W PyProof.Rows PySem.Calls
set_option maxRecDepth 100000
namespace Mine
theorem conS_enterC {prog : Program} {w : World} {mean : ExcName → Option Value} {mg mb : Str → Option Value} {dp un : Nat} {gd : Option (List Code)} {outer : List Env} {A₀ : Around} {base : Heap} {s : Shared} {Q E : Value → Shared → Prop} {post : Value → Prop}
    {name qual : Str} {params : Arguments} {body : List Stmt} {scope : Scope} {dV kV doc pm cdv ct oc : Value} {an od : Option Addr} {osl : Array (Option Value)} {f : Addr} {vs : List Value} {binds : List (Str × Value)}
    (B : Below A₀ base outer s.heap) (XB : (Mine.hd.heap_39 w.params).In base) (TB : Top Mine.hd.view_39 (looseW Mine.hd.view_39 [Str.ofString "length_hint"]) mean mg mb base) (hd : dp < recursionLimit)
    (ret : ∀ v h' tk', Stay (outer.filterMap (·.frame)) s.heap h' → post v → Q v { s with heap := h', toks := tk' })
    (ho : (Mine.hd.heap_39 w.params).lookup f = some ⟨oc, od, .func (fnOf name qual params body scope dV kV doc pm an cdv ct), osl⟩) (hcd : codeIn (Mine.hd.heap_39 w.params) cdv qual = true)
    (hbind : BindsTo s (fnOf name qual params body scope dV kV doc pm an cdv ct) ⟨vs, []⟩ binds)
    (hkind : (binds.all fun y => scope.names.lookup y.1 == some .local || scope.names.lookup y.1 == some .cell) = true)
    (hnd : ((cellsFrom 0 scope.names []).map (·.1)).Nodup)
    (h : ∀ L' h₁ tk cells, Fr s.heap L' h₁ (bindL (envOfC qual scope L' f cdv).kindOf binds fun _ => none) → News s.heap L' h₁ cells →
      CellsAre (bindC (envOfC qual scope L' f cdv).kindOf binds fun _ => none) (cellsFrom (L' + 1) scope.names []) cells → Below (Ar dp un gd outer) base outer s.heap → (Mine.hd.heap_39 w.params).In s.heap → Top Mine.hd.view_39 (looseW Mine.hd.view_39 [Str.ofString "length_hint"]) mean mg mb s.heap → KtsTurn (outer.filterMap (·.frame)) s.heap s.heap →
      wpAny (model prog w) ((Ar dp un gd outer).deeper (envOfC qual scope L' f cdv)) (execs body (envOfC qual scope L' f cdv))
        (fun fl s' => FinS post s outer (match fl with | .ret v => v | _ => .none) s') (fun _ _ => False)
        { s with heap := h₁, toks := tk })
    (hco : scope.isCoroutine = false) (hgen : scope.isGenerator = false) (hk : scope.kind = .function) : wpAny (model prog w) (Ar dp un gd outer) (call (.ref f) vs) Q E s := by
  have X := XB.keeps B.stays
  have T := TB.keeps B.stays
  refine wpAny_call ?_
  refine codeAny_call_function hd (X _ _ ho) rfl hco hgen rfl (codeRec_of X hcd) (hbind _ _ _ _ ?_)
  refine wpAny_newFunctionEnv_cells hk (kindsX hkind _) fun env' he s' x => ?_
  subst he
  refine ⟨T.nolimit.keeps x.toInCall.keep, codeAny_func ?_⟩
  obtain ⟨h₁, tk, rfl, _⟩ := x.done
  have hk₁ := x.toInCall.keep
  obtain ⟨cells, NC, Y⟩ := Cl.news (h₀ := s.heap) (Nat.le_refl _) fun n c hm => ⟨x.cell n c (lookup_of_mem_nodup (cellsFrom_names scope.names 0 (s.heap.objs.size + 1) [] [] rfl ▸ hnd) hm), x.above n c hm⟩
  refine wpAny_mono (h s.heap.objs.size h₁ tk cells ⟨x.toInCall.ns, hk₁, Nat.le_refl _⟩ NC Y ⟨rfl, B.stays, B.frames⟩ X T .refl) (fun fl s' hl => ?_) (fun _ _ y => y.elim)
  obtain ⟨⟨h', tk', rfl, st⟩, hp⟩ := hl
  exact ret _ _ _ st hp

end Mine
end
section
open PySem PySem.W PyProof.Rows PySem.Calls
set_option maxRecDepth 100000
namespace Mine
theorem pow16_ne {k : Nat} : ((16 : Int) ^ k) ≠ 0 := by
  have : ((16 ^ k : Nat) : Int) = (16 : Int) ^ k := by simp
  have h : 0 < 16 ^ k := Nat.pow_pos (by decide)
  omega
abbrev rangeObj (a b : Int) (t u v : Tok) : Obj := { cls := .type "range", data := .fields #[.int a t, .int b u, .int 1 v] }
theorem range2_K {prog : Program} {w : World} {A : Around} {E : Value → Shared → Prop} {s : Shared} {a b : Int} {t u : Tok} {Q : Value → Shared → Prop} {h₀ : Heap} {L : Addr} {m : Str → Option Value} {news : List (Addr × Obj)} (F : Fr h₀ L s.heap m) (N : News h₀ L s.heap news)
    (h : ∀ h' r v k, Fr h₀ L h' m → News h₀ L h' ((r, rangeObj a b t u v) :: news) → (∀ p ∈ news, p.1 < r) → Q (.ref r) { s with heap := h', toks := k }) :
    wpAny (model prog w) A (call (.type "range") [.int a t, .int b u]) Q E s :=
  call_range_2 (h _ _ _ _ (F.push _) (N.push F _) fun p hp => Heap.lt_size (N p hp).1)
end Mine
namespace Mine
theorem item_ints {prog : Program} {w : World} {A : Around} {E : Value → Shared → Prop} {s : Shared} {value slice : PySem.Expr} {D : Addr} {o : Obj} {ys : List Value} {k : Nat} {ns : List Int} {i : Int} {u : Tok} {h₀ : Heap} {L : Addr} {news : List (Addr × Obj)} {Q : Value → Shared → Prop}
    (N : News h₀ L s.heap news) (hm : (D, o) ∈ news) (hc : o.cls = .type "list") (hd : o.data = .seq ys.toArray k) (hi : IntsAre ys ns) (h0 : 0 ≤ i) (h1 : i < (ns.length : Int)) (h2 : i < 2 ^ 62) (h : ∀ t', Q (.int (ns.getD i.toNat 0) t') s)
    (hs : subscripted slice false (.ref D) (.int i u) = operate [.ref D, .int i u] (getItem (.ref D) (.int i u)) := by with_unfolding_all rfl) :
    wpAny (model prog w) A (subscriptTail value slice (.ref D) (.int i u)) Q E s := by
  have hl : s.heap.IsList D ys.toArray := ⟨o, (N _ hm).1, hc, _, hd⟩
  have hlen := IntsAre.length hi
  have hlt : i.toNat < ys.length := by omega
  obtain ⟨n, t, e, hn⟩ := IntsAre.at hi i.toNat ys[i.toNat] (by simp [hlt])
  have hg : ns.getD i.toNat 0 = n := by rw [List.getD_eq_getElem?_getD, hn]; rfl
  refine tail_any hl.typeIs slot_list_getitem.lookup (wpAny_getItem_list hl h0 (by omega) (x := .int n t) (by simp [hlt, e]) ?_) hs
  rw [← hg]; exact h t
theorem fmod_in {a : Int} {n : Nat} (h : 0 < n) : 0 ≤ a.fmod (n : Int) ∧ a.fmod (n : Int) < (n : Int) := by
  rw [Int.fmod_eq_emod_of_nonneg _ (by omega)]
  exact ⟨Int.emod_nonneg _ (by omega), Int.emod_lt_of_pos _ (by omega)⟩
end Mine
namespace Mine
def Frozen (P : Prop) : Prop := P
theorem freeze {P : Prop} (h : Frozen P) : P := h
end Mine
namespace Mine
theorem pow16_small {k : Nat} (h : k ≤ 7) : ((16 : Int) ^ k).natAbs < 1073741824 := by
  have : ((16 ^ k : Nat) : Int) = (16 : Int) ^ k := by simp
  have h2 : 16 ^ k ≤ 16 ^ 7 := Nat.pow_le_pow_right (by decide) h
  rw [← this]
  simp only [Int.natAbs_natCast]
  omega
end Mine
namespace Mine
theorem item_intsM {prog : Program} {w : World} {A : Around} {E : Value → Shared → Prop} {s : Shared} {value slice : PySem.Expr} {D : Addr} {o : Obj} {ys : List Value} {k n : Nat} {ns : List Int} {a : Int} {u : Tok} {h₀ : Heap} {L : Addr} {news : List (Addr × Obj)} {Q : Value → Shared → Prop}
    (N : News h₀ L s.heap news) (hm : (D, o) ∈ news) (hc : o.cls = .type "list") (hd : o.data = .seq ys.toArray k) (hi : IntsAre ys ns) (h0 : 0 < n) (h2 : n ≤ 1000) (h1 : ns.length = n) (h : ∀ t', Q (.int (ns.getD (a.fmod (n : Int)).toNat 0) t') s)
    (hs : subscripted slice false (.ref D) (.int (a.fmod (n : Int)) u) = operate [.ref D, .int (a.fmod (n : Int)) u] (getItem (.ref D) (.int (a.fmod (n : Int)) u)) := by with_unfolding_all rfl) :
    wpAny (model prog w) A (subscriptTail value slice (.ref D) (.int (a.fmod (n : Int)) u)) Q E s := by
  have q := fmod_in (a := a) h0
  exact item_ints N hm hc hd hi q.1 (by rw [h1]; exact q.2) (by omega) h hs
end Mine
end
section
open PySem PySem.W PyProof.Rows PySem.Calls
set_option maxRecDepth 100000
namespace Mine
abbrev oneObj (d : Int) (t : Tok) : Obj := { cls := .type "list", data := .seq #[.int d t] }
/-- the made lists of one int each, in the ledger -/
def RowN (rn : List (Addr × Obj)) (ys : List Value) (ds : List Int) : Prop :=
  ys.length = ds.length ∧ ∀ (k : Nat) v, ys[k]? = some v → ∃ r d t, v = .ref r ∧ (r, oneObj d t) ∈ rn ∧ ds[k]? = some d
theorem RowN.at {h₀ h : Heap} {L R : Addr} {news rn : List (Addr × Obj)} {ys : List Value} {ds : List Int} {k : Nat} (x : RowN rn ys ds) (N : News h₀ L h news) (hs : ∀ p ∈ rn, p ∈ news) (hR : (R, ({ cls := .type "list", data := .seq ys.toArray k } : Obj)) ∈ news) : RowAt h R ds := by
  refine ⟨ys.toArray, ⟨_, (N _ hR).1, rfl, _, rfl⟩, by simpa using x.1, fun i v hv => ?_⟩
  obtain ⟨r, d, t, e, hm, hd⟩ := x.2 i v (by simpa using hv)
  exact ⟨r, d, e, ⟨t, _, (N _ (hs _ hm)).1, rfl, _, rfl⟩, hd⟩
theorem srcAt_mono {h₀ : Heap} {ax : Addr} {its : Array Value} {news news' : List (Addr × Obj)} (x : LCg.SrcAt h₀ ax its news) (hs : ∀ p ∈ news, p ∈ news') : LCg.SrcAt h₀ ax its news' :=
  x.imp id fun ⟨o, hm, r⟩ => ⟨o, hs _ hm, r⟩
section
variable {prog : Program} {w : World} {A : Around} {s : Shared} {h₀ : Heap} {L : Addr} {m : Str → Option Value} {env : Env} {x : Str} {px pos : Pos} {scope : Scope} {cl : List (Str × Addr)} {vs : List Value} {ns : List Int} {ax : Addr} {its : Array Value} {Fin : List Value → List (Addr × Obj) → Prop} {news : List (Addr × Obj)}
theorem comp_rows (hi : IntsAre vs ns) (hk : ∀ C, (compEnvC scope cl C env).scope.kind = .function) (hl : ∀ C, (compEnvC scope cl C env).kindOf x = some .local) (hd : (x == ("__debug__" : Str)) = false)
    (hS : LCg.SrcAt h₀ ax its news) (fin : ∀ ys rn, RowN rn ys ns → Fin ys (rn ++ news)) :
    LCg.CompRest prog w A h₀ L m env (.List [.Name x px] pos) x scope cl s (LCg.SrcAt h₀ ax its) (fun i v => vs.toArray[i]? = some v) Fin vs.toArray.size 0 [] news := by
  have key : ∀ k i ys rn, i + k = vs.length → RowN rn ys (ns.take i) →
      LCg.CompRest prog w A h₀ L m env (.List [.Name x px] pos) x scope cl s (LCg.SrcAt h₀ ax its) (fun i v => vs.toArray[i]? = some v) Fin k i ys (rn ++ news) := by
    intro k
    induction k with
    | zero =>
      intro i ys rn hik hr
      have : ns.take i = ns := by rw [List.take_of_length_le]; rw [← IntsAre.length hi]; omega
      rw [this] at hr
      exact fin ys rn hr
    | succ k ih =>
      intro i ys rn hik hr v I oI C oC D m₂ h tk E' hP hC hx F N off ne
      obtain ⟨d, t, rfl, hd9⟩ := IntsAre.at hi i v (by simpa using hP)
      have hCh : h.get? C = some oC := (N (C, oC) (by simp)).1
      refine List_ (spliced_more (ldVarK (hC.ns hCh) hx (spliced_none ?_) (hk C) (hl C) hd))
      refine newList_N (s := { s with heap := h, toks := tk }) F N (fun h' F' N' => ?_) (by rw [PySem.sizeLine_eq]; simp)
      refine LCg.CompEnd.intro F' N' ((h.objs.size, oneObj d t) :: (rn ++ news)) ?_ ⟨⟨?_, ?_, ?_⟩, off⟩ ?_ ?_
      · intro p hp
        simp only [List.mem_cons] at hp ⊢
        rcases hp with h | h | h | h | h
        · exact .inr (.inl h)
        · exact .inr (.inr (.inl h))
        · exact .inr (.inr (.inr (.inl h)))
        · exact .inl h
        · exact .inr (.inr (.inr (.inr h)))
      · exact Nat.ne_of_gt (Heap.lt_size (N (I, oI) (by simp)).1)
      · exact Nat.ne_of_gt (Heap.lt_size hCh)
      · exact Nat.ne_of_gt (Heap.lt_size (N (D, LCg.lst ys) (by simp)).1)
      · exact srcAt_mono hS fun p hp => List.mem_cons_of_mem _ (List.mem_append_right _ hp)
      · refine ih (i + 1) (ys ++ [.ref h.objs.size]) ((h.objs.size, oneObj d t) :: rn) (by omega) ?_
        have hin : i < ns.length := (List.getElem?_eq_some_iff.mp hd9).1
        have hyl : ys.length = i := by rw [hr.1, List.length_take]; omega
        refine ⟨by rw [List.length_append, hr.1, List.length_take, List.length_take]; simp; omega, fun j u hu => ?_⟩
        rcases Nat.lt_or_ge j ys.length with q | q
        · rw [List.getElem?_append_left q] at hu
          obtain ⟨r, d', t', e, hm, hd'⟩ := hr.2 j u hu
          refine ⟨r, d', t', e, List.mem_cons_of_mem _ hm, ?_⟩
          rw [List.getElem?_take] at hd' ⊢
          rw [if_pos (by omega)] at hd' ⊢
          exact hd'
        · rw [List.getElem?_append_right q] at hu
          have hj : j - ys.length = 0 := by
            cases hz : j - ys.length with
            | zero => rfl
            | succ z => rw [hz] at hu; simp at hu
          rw [hj] at hu
          have hu' : u = .ref h.objs.size := by simpa using hu.symm
          refine ⟨h.objs.size, d, t, hu', List.mem_cons_self .., ?_⟩
          have : j = i := by omega
          rw [this, List.getElem?_take, if_pos (by omega)]
          exact hd9
  have := key vs.length 0 [] [] (by omega) ⟨by simp, fun k v hv => by simp at hv⟩
  simpa using this
end
end Mine
end
section
open PySem PySem.W PyProof.Rows PySem.Calls
set_option maxRecDepth 100000
namespace Mine
theorem filter_fold (last : Int) : ∀ (ns l : List Int), ns.foldl (fun l k => if k = last then l ++ [k] else l) l = l ++ ns.filter (fun k => decide (k = last))
  | [], l => by simp
  | k :: r, l => by
    rw [List.foldl_cons, filter_fold last r]
    by_cases h : k = last
    · simp [h]
    · simp [h]
section
variable {prog : Program} {w : World} {A : Around} {s : Shared} {h₀ : Heap} {L : Addr} {m : Str → Option Value} {env : Env} {x z : Str} {px py pz pos : Pos} {scope : Scope} {cl : List (Str × Addr)} {vs : List Value} {ns : List Int} {ax c : Addr} {o : Obj} {its : Array Value} {Fin : List Value → List (Addr × Obj) → Prop} {news : List (Addr × Obj)} {last : Int} {tl : Tok}
theorem comp_filter (hi : IntsAre vs ns) (hk : ∀ C, (compEnvC scope cl C env).scope.kind = .function) (hl : ∀ C, (compEnvC scope cl C env).kindOf x = some .local) (hd : (x == ("__debug__" : Str)) = false)
    (hz : cl.lookup z = some c) (hm : (c, o) ∈ news) (ho : o.data = .cell (some (.int last tl))) (hzk : ∀ C, (compEnvC scope cl C env).kindOf z = some .cell) (hzd : (z == ("__debug__" : Str)) = false)
    (hS : LCg.SrcAt h₀ ax its news) (fin : ∀ ys, IntsAre ys (ns.filter (fun k => decide (k = last))) → Fin ys news) :
    LCt.CompRestT prog w A h₀ L m env (.Compare (.Name x py) [.Eq] [.Name z pz] pos) (.Name x px) x scope cl s (LCg.SrcAt h₀ ax its) (fun i v => vs.toArray[i]? = some v) Fin vs.toArray.size 0 [] news := by
  refine kci_list (fun l k => if k = last then l ++ [k] else l) hi ?_ ?_ ?_
  · intro k t I oI C oC D m₂ ys l h tk E' hk' hy hC hx F N off ne _
    have hCh : h.get? C = some oC := (N (C, oC) (by simp)).1
    have Nn : News h₀ L h news := fun p hp => N p (by simp [hp])
    refine wpAny_isTrue_Compare1 (ldVarK (hC.ns hCh) hx ?_ (hk C) (hl C) hd)
    refine kcf_cell (s := { s with heap := h, toks := tk }) Nn hz hm ho ?_ (hk C) (hzk C) hzd
    refine eq_int ?_
    refine wpAny_pure ?_
    by_cases e : k = last
    · subst e
      simp only [beq_self_eq_true, if_true]
      refine ldVarK (hC.ns hCh) hx ?_ (hk C) (hl C) hd
      exact LCg.CompEnd.intro F N news (fun p hp => hp) off hS ⟨rfl, k, t, rfl, rfl⟩
    · simp only [e, beq_iff_eq, if_false]
      exact LCg.CompEnd.intro F N news (fun p hp => hp) off hS ⟨rfl, rfl⟩
  · intro ys hy _
    rw [filter_fold] at hy
    exact fin ys (by simpa using hy)
  · intro l k
    dsimp only
    split <;> simp
end
end Mine
namespace Mine
theorem filt_src {prog : Program} {w : World} {A : Around} {h₀ : Heap} {L : Addr} {m : Str → Option Value} {env : Env} {x z : Str} {px py pz pos : Pos} {scope : Scope} {cl : List (Str × Addr)} {vs : List Value} {ns : List Int} {ax c : Addr} {o os : Obj} {k : Nat} {Fin : Shared → List Value → List (Addr × Obj) → Prop} {news : List (Addr × Obj)} {last : Int} {tl : Tok} {s₁ : Shared}
    (hh : A.handled = none) (F : Fr h₀ L s₁.heap m) (N : News h₀ L s₁.heap news) (hm : (ax, os) ∈ news) (hoc : os.cls = .type "list") (hod : os.data = .seq vs.toArray k) (hi : IntsAre vs ns) (hn : ns.length ≤ 1000)
    (hk : ∀ C, (compEnvC scope cl C env).scope.kind = .function) (hl : ∀ C, (compEnvC scope cl C env).kindOf x = some .local) (hd : (x == ("__debug__" : Str)) = false)
    (hz : cl.lookup z = some c) (hmz : (c, o) ∈ news) (ho : o.data = .cell (some (.int last tl))) (hzk : ∀ C, (compEnvC scope cl C env).kindOf z = some .cell) (hzd : (z == ("__debug__" : Str)) = false)
    (fin : ∀ g ys, IntsAre ys (ns.filter (fun k => decide (k = last))) → Fin { s₁ with heap := g } ys news) :
    LCt.CompSrcT prog w A h₀ L m env (.Compare (.Name x py) [.Eq] [.Name z pz] pos) (.Name x px) x scope cl Fin (.ref ax) s₁ := by
  have hs : LCg.SrcAt h₀ ax vs.toArray news := .inr ⟨_, hm, hoc, _, hod⟩
  refine .inl ⟨ax, vs.toArray, news, rfl, hh, F, N, hs, ?_, fun s₂ ⟨g, e⟩ => ?_⟩
  · rw [PySem.sizeLine_eq, List.size_toArray, IntsAre.length hi]; omega
  · subst e
    exact comp_filter hi hk hl hd hz hmz ho hzk hzd hs (fin g)
theorem mul_bnd {s : Nat} {j : Int} (hs : s ≤ 4) (h0 : 0 ≤ j) (h1 : j ≤ 4) : 0 ≤ (s : Int) * j ∧ (s : Int) * j ≤ 1000000 := by
  refine ⟨Int.mul_nonneg (by omega) h0, ?_⟩
  have : (s : Int) * j ≤ 4 * 4 := Int.mul_le_mul (by omega) h1 h0 (by omega)
  omega
end Mine
namespace Mine
theorem len_led {prog : Program} {w : World} {A : Around} {E : Value → Shared → Prop} {s : Shared} {h₀ : Heap} {L : Addr} {news : List (Addr × Obj)} {D : Addr} {o : Obj} {ys : List Value} {k : Nat} {ns : List Int} {Q : Value → Shared → Prop}
    (N : News h₀ L s.heap news) (hm : (D, o) ∈ news) (hc : o.cls = .type "list") (hd : o.data = .seq ys.toArray k) (hi : IntsAre ys ns) (hn : ns.length ≤ 1000)
    (h : Q (.int (ns.length : Int) (s.toks + 1)) { s with toks := s.toks + 1 + 1 }) : wpAny (model prog w) A (call (.builtin "len") [.ref D]) Q E s := by
  have hl : s.heap.IsList D ys.toArray := ⟨o, (N _ hm).1, hc, _, hd⟩
  exact kun_lenL hl (k := (ns.length : Int)) (by rw [List.size_toArray, IntsAre.length hi]) (by omega) h
end Mine
end
section
open PySem PySem.W PyProof.Rows PySem.Calls
set_option maxRecDepth 100000
namespace Mine
theorem call_abs_nat {prog : Program} {w : World} {A : Around} {E : Value → Shared → Prop} {s : Shared} {a : Int} {t : Tok} {Q : Value → Shared → Prop} (h : ∀ u tk, Q (.int (a.natAbs : Int) u) { s with toks := tk }) :
    wpAny (model prog w) A (call (.builtin "abs") [.int a t]) Q E s := by
  refine call_abs_int fun u tk => ?_
  have e : (if a < 0 then -a else a) = (a.natAbs : Int) := by split <;> omega
  rw [e]; exact h u tk
end Mine
end
section
namespace Mine
theorem wN_append (a b : Nat) : wN a ++ wN b = wN (a * 16 ^ (wN b).length + b) := by
  induction b using Nat.strongRecOn with
  | ind b ih =>
    by_cases h0 : b = 0
    · subst h0; simp [wN_zero]
    · have e := wN_pos h0
      have il := ih (b / 16) (by omega)
      rw [e, ← List.append_assoc, il]
      have hl : (wN (b / 16) ++ [65 + ((b % 16 : Nat) : Int)]).length = (wN (b / 16)).length + 1 := by simp
      rw [hl, Nat.pow_succ]
      generalize (16 ^ (wN (b / 16)).length) = q
      have hc : a * (q * 16) + b ≠ 0 := by omega
      rw [wN_pos hc]
      have h1 : (a * (q * 16) + b) / 16 = a * q + b / 16 := by
        rw [← Nat.mul_assoc]; omega
      have h2 : (a * (q * 16) + b) % 16 = b % 16 := by
        rw [← Nat.mul_assoc]; omega
      rw [h1, h2]
end Mine
namespace Mine
theorem wN_lt (n : Nat) : n < 16 ^ (wN n).length := by
  induction n using Nat.strongRecOn with
  | ind n ih =>
    by_cases h0 : n = 0
    · subst h0; simp [wN_zero]
    · have := ih (n / 16) (by omega)
      rw [wN_pos h0]
      simp only [List.length_append, List.length_cons, List.length_nil, Nat.pow_succ]
      omega
/-- so many ones, s figures apart -/
def onesN (s : Nat) : Nat → Nat
  | 0 => 0
  | n + 1 => onesN s n + 16 ^ (s * n)
theorem rep_len (a n : Nat) : ((List.replicate n (wN a)).flatten).length = (wN a).length * n := by
  induction n with
  | zero => simp
  | succ n ih => rw [List.replicate_succ, List.flatten_cons, List.length_append, ih, Nat.mul_succ, Nat.add_comm]
theorem wN_rep (a n : Nat) : (List.replicate n (wN a)).flatten = wN (a * onesN (wN a).length n) := by
  induction n with
  | zero => simp [onesN, wN_zero]
  | succ n ih =>
    have hl := rep_len a n
    rw [List.replicate_succ, List.flatten_cons, ih, wN_append]
    rw [ih] at hl
    rw [hl, onesN, Nat.mul_add, Nat.add_comm]
theorem ones_lt {a n : Nat} (h : (wN a).length ≤ 4) (hn : n ≤ 3) : a * onesN (wN a).length n < 2 ^ 60 := by
  have h1 := wN_lt (a * onesN (wN a).length n)
  rw [← wN_rep, rep_len] at h1
  have h2 : (wN a).length * n ≤ 12 := Nat.mul_le_mul h hn
  have h3 : 16 ^ ((wN a).length * n) ≤ 16 ^ 12 := Nat.pow_le_pow_right (by decide) h2
  omega
end Mine
end
section
open PySem PySem.W PyProof.Rows PySem.Calls
namespace Mine
theorem wN_figsN (n : Nat) : wN n = ((List.range (wN n).length).map (fun i => 65 + ((n / 16 ^ i % 16 : Nat) : Int))).reverse := by
  induction n using Nat.strongRecOn with
  | _ n ih =>
    by_cases h0 : n = 0
    · subst h0; simp [wN_zero]
    · have hlt : n / 16 < n := Nat.div_lt_self (by omega) (by omega)
      have e := wN_pos h0
      have i1 := ih (n / 16) hlt
      rw [e, List.length_append, List.length_singleton, List.range_succ_eq_map, List.map_cons, List.reverse_cons, List.map_map]
      simp only [Nat.pow_zero, Nat.div_one]
      congr 1
      rw [i1]
      simp only [List.length_reverse, List.length_map, List.length_range]
      congr 1
      apply List.map_congr_left
      intro i _
      simp only [Function.comp]
      rw [Nat.div_div_eq_div_mul, Nat.pow_succ']
abbrev figsI (m : Int) (L : Nat) : List Int := List.map (fun k' : Int => (m.fdiv (16 ^ k'.toNat)).fmod 16) (rangeKs 0 ((L : Int) - 0).toNat)
theorem figsI_eq {m : Int} (h : 0 ≤ m) (L : Nat) : figsI m L = (List.range L).map (fun i => ((m.toNat / 16 ^ i % 16 : Nat) : Int)) := by
  obtain ⟨n, rfl⟩ := Int.eq_ofNat_of_zero_le h
  unfold figsI rangeKs
  rw [List.map_map, show ((L : Int) - 0).toNat = L by omega]
  apply List.map_congr_left
  intro i _
  simp only [Function.comp]
  rw [show ((0 : Int) + (i : Int)).toNat = i by omega]
  rw [Int.fdiv_eq_ediv_of_nonneg _ (Int.pow_nonneg (by omega)), Int.fmod_eq_emod_of_nonneg _ (by omega)]
  simp
theorem figs_rev {ks : List Int} {m : Int} (h : 0 ≤ m) (hks : ks = wN m.toNat) : ks = ((figsI m ks.length).reverse).map (fun x => 65 + x) := by
  rw [figsI_eq h]
  have := wN_figsN m.toNat
  rw [← hks] at this
  rw [← List.map_reverse, List.map_map]
  rw [← List.map_reverse] at this
  exact this
theorem figsI_length (m : Int) (L : Nat) : (figsI m L).length = L := by unfold figsI rangeKs; simp
theorem getD_rev {l : List Int} {i : Nat} (h : i < l.length) : (l.reverse.map (fun x => 65 + x)).getD i 0 = 65 + l.getD (l.length - 1 - i) 0 := by
  have h2 : l.length - 1 - i < l.length := by omega
  rw [List.getD_eq_getElem?_getD, List.getD_eq_getElem?_getD, List.getElem?_map, List.getElem?_reverse h, List.getElem?_eq_getElem h2]
  simp
theorem letters_list {ks : List Int} {m : Int} (h : 0 ≤ m) (hks : ks = wN m.toNat) :
    List.map (fun k' : Int => ks.getD (if k' < 0 then k' + (ks.length : Int) else k').toNat 0) (rangeKs (-(ks.length : Int)) ((ks.length : Int) - -(ks.length : Int)).toNat)
      = List.map (fun k' : Int => 65 + (figsI m ks.length).getD ((-1 - k').fmod (ks.length : Int)).toNat 0) (rangeKs (-(ks.length : Int)) ((ks.length : Int) - -(ks.length : Int)).toNat) := by
  apply List.map_congr_left
  intro k hk
  unfold rangeKs at hk
  rw [List.mem_map] at hk
  obtain ⟨i, hi, rfl⟩ := hk
  rw [List.mem_range] at hi
  have hr := figs_rev h hks
  have hl := figsI_length m ks.length
  generalize figsI m ks.length = fs at *
  generalize hL : ks.length = L at *
  subst hr
  rw [Int.fmod_eq_emod_of_nonneg _ (by omega)]
  split
  · rw [getD_rev (by omega), Int.emod_eq_of_lt (by omega) (by omega)]
    congr 2; omega
  · rw [getD_rev (by omega), ← Int.add_emod_right, Int.emod_eq_of_lt (by omega) (by omega)]
    congr 2; omega
theorem count_figs {ks : List Int} {m c : Int} (h : 0 ≤ m) (hks : ks = wN m.toNat) : List.count (65 + c) ks = List.count c (figsI m ks.length).reverse ∧ List.count c (figsI m ks.length).reverse = (List.filter (fun k => decide (k = c)) (figsI m ks.length)).length := by
  have hr := figs_rev h hks
  generalize figsI m ks.length = fs at *
  subst hr
  constructor
  · generalize fs.reverse = l
    induction l with
    | nil => rfl
    | cons x r ih =>
      rw [List.map_cons, List.count_cons, List.count_cons, ih]
      congr 1
      by_cases hx : x = c
      · subst hx; simp
      · have : ¬ (65 + x = 65 + c) := by omega
        simp [hx, this]
  · rw [List.count_reverse, List.count_eq_length_filter]
    congr 2
end Mine
end
section
open PySem PySem.W PyProof.Rows PySem.Calls
set_option maxRecDepth 100000
namespace Mine
open PySem.SeqAt
open PySem.AutoSeq1 (wpAny_loadPart')
theorem tuple_ltAt (l b : Addr) (x1 x2 y1 y2 : Int) (t1 t2 u1 u2 : Tok) (n n2 : Nat) (dd dd2 : Option Addr) (sl sl2 : Array (Option Value)) :
    Meets (Builtin.«tuple.__lt__» ⟨[.ref l, .ref b], []⟩)
      (fun _ R s => s.heap.get? l = some { cls := .type "tuple", dict := dd, data := .seq #[.int x1 t1, .int x2 t2] n, slots := sl } ∧ s.heap.get? b = some { cls := .type "tuple", dict := dd2, data := .seq #[.int y1 u1, .int y2 u2] n2, slots := sl2 } ∧
        R (.ok (.ret (.bool (decide (x1 < y1 ∨ (x1 = y1 ∧ x2 < y2)))))) s) :=
  .of_wp fun prog w A R s h => by
    obtain ⟨hp, g, d, tk, os⟩ := s; obtain ⟨hl, hb, h⟩ := h
    have f2 := AutoSeq1.sub_tuple_tuple
    wp_walk using wpAny_loadPart' hl, wpAny_loadPart' hb
    refine wpAny_eqBool_int ?_
    by_cases e1 : x1 = y1
    · subst e1
      rw [beq_self_eq_true]
      simp only [Bool.not_true, Bool.false_eq_true, if_false]
      refine wpAny_pure ?_
      simp only [List.zipWith, List.forIn'.loop]
      refine wpAny_bind (wpAny_bind (wpAny_eqBool_int ?_))
      by_cases e2 : x2 = y2
      · subst e2
        rw [beq_self_eq_true]
        simp only [Bool.not_true, Bool.false_eq_true, if_false]
        refine wpAny_pure (wpAny_pure (wpAny_pure ?_))
        refine ⟨_, rfl, ?_⟩
        rw [show decide (x1 < x1 ∨ (x1 = x1 ∧ x2 < x2)) = false by simp] at h
        exact h
      · rw [show (x2 == y2) = false by simpa using e2]
        simp only [Bool.not_false, if_true]
        refine wpAny_bind (wpAny_rule ?_)
        refine wpAny_bind (show wpAny _ _ (compareOp .Lt _ _) _ _ _ from PyProof.Rows.lt_int ?_)
        refine wpAny_pure (wpAny_pure (wpAny_pure ?_))
        refine ⟨_, rfl, ?_⟩
        rw [show decide (x1 < x1 ∨ (x1 = x1 ∧ x2 < y2)) = decide (x2 < y2) by simp] at h
        exact h
    · rw [show (x1 == y1) = false by simpa using e1]
      simp only [Bool.not_false, if_true]
      refine wpAny_bind (wpAny_rule ?_)
      refine wpAny_bind (show wpAny _ _ (compareOp .Lt _ _) _ _ _ from PyProof.Rows.lt_int ?_)
      refine wpAny_pure (wpAny_pure (wpAny_pure ?_))
      refine ⟨_, rfl, ?_⟩
      rw [show decide (x1 < y1 ∨ (x1 = y1 ∧ x2 < y2)) = decide (x1 < y1) by rw [decide_eq_decide]; omega] at h
      exact h
theorem lt_pairs {prog : Program} {w : World} {A : Around} {E : Value → Shared → Prop} {s : Shared} {h₀ : Heap} {L : Addr} {news : List (Addr × Obj)} {l b : Addr} {ol ob : Obj} {x1 x2 y1 y2 : Int} {t1 t2 u1 u2 : Tok} {n n2 : Nat} {Q : Value → Shared → Prop}
    (N : News h₀ L s.heap news) (hl : (l, ol) ∈ news) (hb : (b, ob) ∈ news) (cl : ol.cls = .type "tuple") (cb : ob.cls = .type "tuple") (dl : ol.data = .seq #[.int x1 t1, .int x2 t2] n) (db : ob.data = .seq #[.int y1 u1, .int y2 u2] n2) (hu : A.units < cLine)
    (h : Q (.bool (decide (x1 < y1 ∨ (x1 = y1 ∧ x2 < y2)))) s) : wpAny (model prog w) A (compareOp .Lt (.ref l) (.ref b)) Q E s := by
  obtain ⟨c1, d1, dt1, s1⟩ := ol
  obtain ⟨c2, d2, dt2, s2⟩ := ob
  dsimp only at cl cb dl db
  subst cl cb dl db
  have g1 := (N _ hl).1
  have g2 := (N _ hb).1
  exact richCompare_meets_room (op := .Lt) ⟨_, g1, rfl⟩ ⟨_, g2, rfl⟩ F.slot_tuple_lt F.entry_tuple_lt (F.args_tuple_lt_2 _ _) (tuple_ltAt l b x1 x2 y1 y2 t1 t2 u1 u2 n n2 d1 d2 s1 s2)
    ⟨g1, g2, show Value.bool (decide (x1 < y1 ∨ (x1 = y1 ∧ x2 < y2))) ≠ Value.notImplemented ∧ Q (.bool (decide (x1 < y1 ∨ (x1 = y1 ∧ x2 < y2)))) s from ⟨(fun x => nomatch x), h⟩⟩ hu
theorem tuple_leAt (l b : Addr) (x1 x2 y1 y2 : Int) (t1 t2 u1 u2 : Tok) (n n2 : Nat) (dd dd2 : Option Addr) (sl sl2 : Array (Option Value)) :
    Meets (Builtin.«tuple.__le__» ⟨[.ref l, .ref b], []⟩)
      (fun _ R s => s.heap.get? l = some { cls := .type "tuple", dict := dd, data := .seq #[.int x1 t1, .int x2 t2] n, slots := sl } ∧ s.heap.get? b = some { cls := .type "tuple", dict := dd2, data := .seq #[.int y1 u1, .int y2 u2] n2, slots := sl2 } ∧
        R (.ok (.ret (.bool (decide (x1 < y1 ∨ (x1 = y1 ∧ x2 ≤ y2)))))) s) :=
  .of_wp fun prog w A R s h => by
    obtain ⟨hp, g, d, tk, os⟩ := s; obtain ⟨hl, hb, h⟩ := h
    have f2 := AutoSeq1.sub_tuple_tuple
    wp_walk using wpAny_loadPart' hl, wpAny_loadPart' hb
    refine wpAny_eqBool_int ?_
    by_cases e1 : x1 = y1
    · subst e1
      rw [beq_self_eq_true]
      simp only [Bool.not_true, Bool.false_eq_true, if_false]
      refine wpAny_pure ?_
      simp only [List.zipWith, List.forIn'.loop]
      refine wpAny_bind (wpAny_bind (wpAny_eqBool_int ?_))
      by_cases e2 : x2 = y2
      · subst e2
        rw [beq_self_eq_true]
        simp only [Bool.not_true, Bool.false_eq_true, if_false]
        refine wpAny_pure (wpAny_pure (wpAny_pure ?_))
        refine ⟨_, rfl, ?_⟩
        rw [show decide (x1 < x1 ∨ (x1 = x1 ∧ x2 ≤ x2)) = true by simp] at h
        exact h
      · rw [show (x2 == y2) = false by simpa using e2]
        simp only [Bool.not_false, if_true]
        refine wpAny_bind (wpAny_rule ?_)
        refine wpAny_bind (show wpAny _ _ (compareOp .LtE _ _) _ _ _ from PyProof.Rows.le_int ?_)
        refine wpAny_pure (wpAny_pure (wpAny_pure ?_))
        refine ⟨_, rfl, ?_⟩
        rw [show decide (x1 < x1 ∨ (x1 = x1 ∧ x2 ≤ y2)) = decide (x2 ≤ y2) by simp] at h
        exact h
    · rw [show (x1 == y1) = false by simpa using e1]
      simp only [Bool.not_false, if_true]
      refine wpAny_bind (wpAny_rule ?_)
      refine wpAny_bind (show wpAny _ _ (compareOp .LtE _ _) _ _ _ from PyProof.Rows.le_int ?_)
      refine wpAny_pure (wpAny_pure (wpAny_pure ?_))
      refine ⟨_, rfl, ?_⟩
      rw [show decide (x1 < y1 ∨ (x1 = y1 ∧ x2 ≤ y2)) = decide (x1 ≤ y1) by rw [decide_eq_decide]; omega] at h
      exact h
theorem le_pairs {prog : Program} {w : World} {A : Around} {E : Value → Shared → Prop} {s : Shared} {h₀ : Heap} {L : Addr} {news : List (Addr × Obj)} {l b : Addr} {ol ob : Obj} {x1 x2 y1 y2 : Int} {t1 t2 u1 u2 : Tok} {n n2 : Nat} {Q : Value → Shared → Prop}
    (N : News h₀ L s.heap news) (hl : (l, ol) ∈ news) (hb : (b, ob) ∈ news) (cl : ol.cls = .type "tuple") (cb : ob.cls = .type "tuple") (dl : ol.data = .seq #[.int x1 t1, .int x2 t2] n) (db : ob.data = .seq #[.int y1 u1, .int y2 u2] n2) (hu : A.units < cLine)
    (h : Q (.bool (decide (x1 < y1 ∨ (x1 = y1 ∧ x2 ≤ y2)))) s) : wpAny (model prog w) A (compareOp .LtE (.ref l) (.ref b)) Q E s := by
  obtain ⟨c1, d1, dt1, s1⟩ := ol
  obtain ⟨c2, d2, dt2, s2⟩ := ob
  dsimp only at cl cb dl db
  subst cl cb dl db
  have g1 := (N _ hl).1
  have g2 := (N _ hb).1
  exact richCompare_meets_room (op := .LtE) ⟨_, g1, rfl⟩ ⟨_, g2, rfl⟩ F.slot_tuple_le F.entry_tuple_le (F.args_tuple_le_2 _ _) (tuple_leAt l b x1 x2 y1 y2 t1 t2 u1 u2 n n2 d1 d2 s1 s2)
    ⟨g1, g2, show Value.bool (decide (x1 < y1 ∨ (x1 = y1 ∧ x2 ≤ y2))) ≠ Value.notImplemented ∧ Q (.bool (decide (x1 < y1 ∨ (x1 = y1 ∧ x2 ≤ y2)))) s from ⟨(fun x => nomatch x), h⟩⟩ hu
end Mine
end
section
open PySem PySem.W PyProof.Rows PySem.Calls
set_option maxRecDepth 100000
namespace Mine
theorem bools_src {prog : Program} {w : World} {A : Around} {h₀ : Heap} {L : Addr} {m : Str → Option Value} {env : Env} {x : Str} {px p1 p2 p3 p4 p5 : Pos} {scope : Scope} {cl : List (Str × Addr)} {its : Array Value} {ax : Addr} {os : Obj} {k : Nat} {Fin : Shared → List Value → List (Addr × Obj) → Prop} {news : List (Addr × Obj)} {s₁ : Shared}
    {K : Frag} {p : Program} {loose : List Str} {mean : ExcName → Option Value} {mg mb : Str → Option Value}
    (hh : A.handled = none) (F : Fr h₀ L s₁.heap m) (N : News h₀ L s₁.heap news) (hm : (ax, os) ∈ news) (hoc : os.cls = .type "list") (hod : os.data = .seq its k) (hsz : its.size ≤ sizeLine) (hits : ∀ (i : Nat) v, its[i]? = some v → ∃ b, v = .bool b)
    (X : K.In h₀) (T : Top p loose mean mg mb h₀) (e1 : nsIn K mainGlobals (Str.ofString "type") = some none) (e2 : nsIn K mainGlobals (Str.ofString "bool") = some none)
    (hg : env.globals = mainGlobals) (hb : env.builtins = builtinsNs)
    (hk : ∀ C, (compEnvC scope cl C env).scope.kind = .function) (hl : ∀ C, (compEnvC scope cl C env).kindOf x = some .local) (hd : (x == ("__debug__" : Str)) = false)
    (ht : ∀ C, (compEnvC scope cl C env).kindOf (Str.ofString "type") = some .globalImplicit) (hbo : ∀ C, (compEnvC scope cl C env).kindOf (Str.ofString "bool") = some .globalImplicit)
    (fin : ∀ g, Fin { s₁ with heap := g } [] news) :
    LCt.CompSrcT prog w A h₀ L m env (.Compare (.Call (.Name (Str.ofString "type") p1) [.Name x p2] [] p3) [.IsNot] [.Name (Str.ofString "bool") p4] p5) (.Name x px) x scope cl Fin (.ref ax) s₁ := by
  have hs : LCg.SrcAt h₀ ax its news := .inr ⟨_, hm, hoc, _, hod⟩
  refine .inl ⟨ax, its, news, rfl, hh, F, N, hs, hsz, fun s₂ ⟨g, e⟩ => ?_⟩
  subst e
  have key : ∀ k i, LCt.CompRestT prog w A h₀ L m env (.Compare (.Call (.Name (Str.ofString "type") p1) [.Name x p2] [] p3) [.IsNot] [.Name (Str.ofString "bool") p4] p5) (.Name x px) x scope cl { s₁ with heap := g } (LCg.SrcAt h₀ ax its) (fun i v => its[i]? = some v) (Fin { s₁ with heap := g }) k i [] news := by
    intro k
    induction k with
    | zero => intro i; exact LCt.CompRestT.zero (fin g)
    | succ k ih =>
      intro i
      refine LCt.CompRestT.succ ?_
      intro v I oI C oC D m₂ h tk E' hv hC hx F' N' off ne
      obtain ⟨b, rfl⟩ := hits i v hv
      have hCh : h.get? C = some oC := (N' (C, oC) (by simp)).1
      refine wpAny_isTrue_Compare1 (Call_ (LCgL.ld_built (s := { s₁ with heap := h, toks := tk }) F' X T e1 PyProof.Rows.Boot.type (by decide) ?_ hg hb (hk C) (ht C) (by decide)))
      refine Pv.callWith_type1 (spliced_more (ldVarK (hC.ns hCh) hx (spliced_none ?_) (hk C) (hl C) hd))
      refine call_type_of (Tx := "bool") rfl (by decide +kernel) ?_
      refine LCgL.ld_built (s := { s₁ with heap := h, toks := tk }) F' X T e2 PyProof.Rows.Boot.bool (by decide) ?_ hg hb (hk C) (hbo C) (by decide)
      refine isnot_type_same ?_
      refine wpAny_truthy_bool ?_
      simp only [Bool.false_eq_true, if_false]
      exact LCg.CompEnd.intro F' N' news (fun p hp => hp) off hs (ih (i + 1))
  exact key _ 0
end Mine
end
section
open PySem PySem.W PyProof.Rows PySem.Calls
namespace Mine
/-- v to t letters -/
def pN : Nat → Nat → List Int
  | 0, _ => []
  | t + 1, v => pN t (v / 16) ++ [65 + ((v % 16 : Nat) : Int)]
theorem pN_len (t v : Nat) : (pN t v).length = t := by
  induction t generalizing v with
  | zero => rfl
  | succ t ih => rw [pN, List.length_append, ih]; rfl
theorem wN_pN (n : Nat) : wN n = pN (wN n).length n := by
  induction n using Nat.strongRecOn with
  | _ n ih =>
    by_cases h0 : n = 0
    · subst h0; rw [wN_zero]; rfl
    · have e := wN_pos h0
      have i1 := ih (n / 16) (Nat.div_lt_self (by omega) (by omega))
      have hl : (wN n).length = (wN (n / 16)).length + 1 := by rw [e]; simp
      rw [hl, pN, ← i1]; exact e
theorem pN_append (p q v : Nat) : pN (p + q) v = pN p (v / 16 ^ q) ++ pN q v := by
  induction q generalizing v with
  | zero => simp [pN]
  | succ q ih =>
    rw [← Nat.add_assoc, pN, ih, pN, List.append_assoc, Nat.div_div_eq_div_mul, Nat.pow_succ']
theorem pN_mod (t v : Nat) : pN t (v % 16 ^ t) = pN t v := by
  induction t generalizing v with
  | zero => rfl
  | succ t ih =>
    have h1 : v % 16 ^ (t + 1) / 16 = v / 16 % 16 ^ t := by
      rw [Nat.pow_succ', Nat.mod_mul, Nat.mul_comm 16, Nat.add_mul_div_right _ _ (by decide)]
      rw [Nat.div_eq_of_lt (Nat.mod_lt _ (by decide))]; omega
    have h2 : v % 16 ^ (t + 1) % 16 = v % 16 := by
      rw [Nat.pow_succ', Nat.mod_mul_right_mod]
    rw [pN, pN, h1, h2, ih]
theorem pN_inj {t u v : Nat} (hu : u < 16 ^ t) (hv : v < 16 ^ t) (h : pN t u = pN t v) : u = v := by
  induction t generalizing u v with
  | zero => simp at hu hv; omega
  | succ t ih =>
    rw [pN, pN] at h
    obtain ⟨h1, h2⟩ := List.append_inj h (by rw [pN_len, pN_len])
    rw [Nat.pow_succ] at hu hv
    have := ih (u := u / 16) (v := v / 16) (by omega) (by omega) h1
    simp at h2
    omega
theorem wN_div (a j : Nat) (h : j ≤ (wN a).length) : (wN (a / 16 ^ j)).length = (wN a).length - j := by
  induction j with
  | zero => simp
  | succ j ih =>
    have i1 := ih (by omega)
    have h0 : a / 16 ^ j ≠ 0 := by
      intro z; rw [z, wN_zero] at i1; simp at i1; omega
    rw [wN_pos h0, List.length_append] at i1
    rw [Nat.pow_succ, ← Nat.div_div_eq_div_mul]
    simp at i1; omega
theorem window {a t j : Nat} (h : j + t ≤ (wN a).length) : ((wN a).drop ((wN a).length - t - j)).take t = pN t (a / 16 ^ j) := by
  generalize hs : (wN a).length = s at *
  have e : wN a = pN (s - t - j) (a / 16 ^ (t + j)) ++ (pN t (a / 16 ^ j) ++ pN j a) := by
    rw [← pN_append t j, ← pN_append, show s - t - j + (t + j) = s by omega, ← hs]; exact wN_pN a
  rw [e, List.drop_left' (pN_len _ _), List.take_left' (pN_len _ _)]
theorem has_iff (a c : Nat) : hasI (wN a) (wN c) = true ↔ ∃ j, j ≤ (wN a).length ∧ a / 16 ^ j % 16 ^ (wN c).length = c := by
  have hc := wN_pN c
  have hlc := wN_lt c
  unfold hasI
  rw [List.any_eq_true]
  constructor
  · rintro ⟨i, hi, he⟩
    rw [List.mem_range] at hi
    have he := eq_of_beq he
    have hw := window (a := a) (t := (wN c).length) (j := (wN a).length - (wN c).length - i) (by omega)
    rw [show (wN a).length - (wN c).length - ((wN a).length - (wN c).length - i) = i by omega, he] at hw
    refine ⟨(wN a).length - (wN c).length - i, by omega, ?_⟩
    refine pN_inj (Nat.mod_lt _ (Nat.pow_pos (by decide))) hlc ?_
    rw [pN_mod, ← hw, ← hc]
  · rintro ⟨j, hj, he⟩
    have hjt : j + (wN c).length ≤ (wN a).length := by
      apply Nat.le_of_not_lt
      intro hlt
      have h1 := wN_div a j hj
      have h2 := wN_lt (a / 16 ^ j)
      rw [h1] at h2
      have h3 : 16 ^ ((wN a).length - j) ≤ 16 ^ (wN c).length := Nat.pow_le_pow_right (by decide) (by omega)
      rw [Nat.mod_eq_of_lt (by omega)] at he
      rw [he] at h1
      omega
    refine ⟨(wN a).length - (wN c).length - j, by rw [List.mem_range]; omega, ?_⟩
    rw [window hjt, ← pN_mod, he, ← hc]
    simp
theorem has_runs (a c : Nat) : hasI (wN a) (wN c) = decide (0 < ((List.filter (fun k => decide (k = (c : Int))) (List.map (fun k' : Int => ((a : Int).fdiv (16 ^ k'.toNat)).fmod (16 ^ (((wN c).length : Int)).toNat)) (rangeKs 0 (((wN a).length : Int) + 1 - 0).toNat))).length : Int)) := by
  rw [Bool.eq_iff_iff, has_iff, decide_eq_true_eq]
  rw [show ((wN a).length : Int) + 1 - 0 = (((wN a).length + 1 : Nat) : Int) by omega, Int.toNat_natCast, Int.toNat_natCast]
  have hv : ∀ j : Nat, ((a : Int).fdiv (16 ^ ((0 : Int) + (j : Int)).toNat)).fmod (16 ^ (wN c).length) = ((a / 16 ^ j % 16 ^ (wN c).length : Nat) : Int) := by
    intro j
    rw [show ((0 : Int) + (j : Int)).toNat = j by omega]
    rw [Int.fdiv_eq_ediv_of_nonneg _ (Int.pow_nonneg (by omega)), Int.fmod_eq_emod_of_nonneg _ (Int.pow_nonneg (by omega))]
    simp
  constructor
  · rintro ⟨j, hj, he⟩
    have hmem : (c : Int) ∈ List.filter (fun k => decide (k = (c : Int))) (List.map (fun k' : Int => ((a : Int).fdiv (16 ^ k'.toNat)).fmod (16 ^ (wN c).length)) (rangeKs 0 ((wN a).length + 1))) := by
      rw [List.mem_filter]
      refine ⟨?_, by simp⟩
      rw [List.mem_map]
      refine ⟨(0 : Int) + (j : Int), ?_, ?_⟩
      · unfold rangeKs; rw [List.mem_map]; exact ⟨j, by rw [List.mem_range]; omega, rfl⟩
      · rw [hv, he]
    have := List.length_pos_of_mem hmem
    omega
  · intro hpos
    have hpos' : 0 < (List.filter (fun k => decide (k = (c : Int))) (List.map (fun k' : Int => ((a : Int).fdiv (16 ^ k'.toNat)).fmod (16 ^ (wN c).length)) (rangeKs 0 ((wN a).length + 1)))).length := by omega
    obtain ⟨k, hk⟩ := List.exists_mem_of_length_pos hpos'
    rw [List.mem_filter] at hk
    obtain ⟨hk1, hk2⟩ := hk
    have hk2 := of_decide_eq_true hk2
    subst hk2
    rw [List.mem_map] at hk1
    obtain ⟨k', hk', he⟩ := hk1
    unfold rangeKs at hk'
    rw [List.mem_map] at hk'
    obtain ⟨j, hj, rfl⟩ := hk'
    rw [List.mem_range] at hj
    rw [hv] at he
    exact ⟨j, by omega, by omega⟩
def ordL (u v s t : Nat) : Ordering := if u < v then .lt else if v < u then .gt else if s < t then .lt else if t < s then .gt else .eq
theorem ord_pN (s t a c : Nat) (ha : a < 16 ^ s) (hc : c < 16 ^ t) : ordI (pN s a) (pN t c) = ordL (a * 16 ^ t) (c * 16 ^ s) s t := by
  induction s generalizing t a c with
  | zero =>
    have ha0 : a = 0 := by simpa using ha
    subst ha0
    cases t with
    | zero =>
      have hc0 : c = 0 := by simpa using hc
      subst hc0
      rfl
    | succ t =>
      have : ∃ y ys, pN (t + 1) c = y :: ys := by
        have := pN_len (t + 1) c
        cases h : pN (t + 1) c with
        | nil => rw [h] at this; simp at this
        | cons y ys => exact ⟨y, ys, rfl⟩
      obtain ⟨y, ys, e⟩ := this
      rw [e]
      show Ordering.lt = _
      unfold ordL
      by_cases hc0 : 0 < c
      · rw [if_pos (by simpa using hc0)]
      · have : c = 0 := by omega
        subst this
        simp
  | succ s ih =>
    cases t with
    | zero =>
      have hc0 : c = 0 := by simpa using hc
      subst hc0
      have : ∃ y ys, pN (s + 1) a = y :: ys := by
        have := pN_len (s + 1) a
        cases h : pN (s + 1) a with
        | nil => rw [h] at this; simp at this
        | cons y ys => exact ⟨y, ys, rfl⟩
      obtain ⟨y, ys, e⟩ := this
      rw [e]
      show Ordering.gt = _
      unfold ordL
      by_cases ha0 : 0 < a
      · rw [if_neg (by simp), if_pos (by simpa using ha0)]
      · have : a = 0 := by omega
        subst this
        simp
    | succ t =>
      have e1 : pN (s + 1) a = (65 + ((a / 16 ^ s : Nat) : Int)) :: pN s (a % 16 ^ s) := by
        rw [Nat.add_comm, pN_append, pN_mod]
        simp only [pN, List.nil_append, List.cons_append]
        rw [Nat.mod_eq_of_lt (a := a / 16 ^ s)]
        rw [Nat.pow_succ] at ha
        exact Nat.div_lt_of_lt_mul ha
      have e2 : pN (t + 1) c = (65 + ((c / 16 ^ t : Nat) : Int)) :: pN t (c % 16 ^ t) := by
        rw [Nat.add_comm, pN_append, pN_mod]
        simp only [pN, List.nil_append, List.cons_append]
        rw [Nat.mod_eq_of_lt (a := c / 16 ^ t)]
        rw [Nat.pow_succ] at hc
        exact Nat.div_lt_of_lt_mul hc
      have hra : a % 16 ^ s < 16 ^ s := Nat.mod_lt _ (Nat.pow_pos (by decide))
      have hrc : c % 16 ^ t < 16 ^ t := Nat.mod_lt _ (Nat.pow_pos (by decide))
      have da := Nat.div_add_mod a (16 ^ s)
      have dc := Nat.div_add_mod c (16 ^ t)
      rw [e1, e2, ordI, ih t _ _ hra hrc]
      have hP : 0 < 16 ^ s := Nat.pow_pos (by decide)
      have hR : 0 < 16 ^ t := Nat.pow_pos (by decide)
      rw [Nat.pow_succ, Nat.pow_succ]
      generalize a / 16 ^ s = x at *
      generalize c / 16 ^ t = y at *
      generalize a % 16 ^ s = u at *
      generalize c % 16 ^ t = v at *
      generalize 16 ^ s = P at *
      generalize 16 ^ t = R at *
      subst da dc
      have h1 : u * R < P * R := Nat.mul_lt_mul_of_pos_right hra hR
      have h2 : v * P < P * R := by rw [Nat.mul_comm P R]; exact Nat.mul_lt_mul_of_pos_right hrc hP
      have f1 : (P * x + u) * (R * 16) = 16 * (x * (P * R)) + 16 * (u * R) := by
        simp only [Nat.add_mul, Nat.mul_add, Nat.mul_comm, Nat.mul_left_comm, Nat.mul_assoc]
      have f2 : (R * y + v) * (P * 16) = 16 * (y * (P * R)) + 16 * (v * P) := by
        simp only [Nat.add_mul, Nat.mul_add, Nat.mul_comm, Nat.mul_left_comm, Nat.mul_assoc]
      rw [f1, f2]
      generalize P * R = M at *
      rcases Nat.lt_trichotomy x y with q | q | q
      · rw [if_pos (by omega)]
        have h3 : (x + 1) * M ≤ y * M := Nat.mul_le_mul_right _ q
        rw [Nat.add_mul, Nat.one_mul] at h3
        unfold ordL
        rw [if_pos (by omega)]
      · subst q
        rw [if_neg (by omega), if_neg (by omega)]
        unfold ordL
        generalize x * M = z
        generalize u * R = g1
        generalize v * P = g2
        repeat' split
        all_goals first | rfl | (exfalso; omega)
      · rw [if_neg (by omega), if_pos (by omega)]
        have h3 : (y + 1) * M ≤ x * M := Nat.mul_le_mul_right _ q
        rw [Nat.add_mul, Nat.one_mul] at h3
        unfold ordL
        rw [if_neg (by omega), if_pos (by omega)]
theorem ord_wN (a c : Nat) : ordI (wN a) (wN c) = ordL (a * 16 ^ (wN c).length) (c * 16 ^ (wN a).length) (wN a).length (wN c).length := by
  have h := ord_pN (wN a).length (wN c).length a c (wN_lt a) (wN_lt c)
  rw [← wN_pN, ← wN_pN] at h
  exact h
theorem up_iff (a c s t h : Nat) (hs : s ≤ h) (ht : t ≤ h) : (a * 16 ^ t < c * 16 ^ s ↔ (a : Int) * 16 ^ (h - s) < (c : Int) * 16 ^ (h - t)) ∧ (a * 16 ^ t = c * 16 ^ s ↔ (a : Int) * 16 ^ (h - s) = (c : Int) * 16 ^ (h - t)) := by
  have c1 : (a : Int) * 16 ^ (h - s) = ((a * 16 ^ (h - s) : Nat) : Int) := by simp
  have c2 : (c : Int) * 16 ^ (h - t) = ((c * 16 ^ (h - t) : Nat) : Int) := by simp
  rw [c1, c2, Int.ofNat_lt, Int.ofNat_inj]
  have hp : 0 < 16 ^ h := Nat.pow_pos (by decide)
  have hps : 0 < 16 ^ s := Nat.pow_pos (by decide)
  have hpt : 0 < 16 ^ t := Nat.pow_pos (by decide)
  have k1 : a * 16 ^ (h - s) * (16 ^ s * 16 ^ t) = a * 16 ^ t * 16 ^ h := by
    have : 16 ^ (h - s) * 16 ^ s = 16 ^ h := by rw [← Nat.pow_add]; congr 1; omega
    rw [← this]; simp only [Nat.mul_comm, Nat.mul_left_comm, Nat.mul_assoc]
  have k2 : c * 16 ^ (h - t) * (16 ^ s * 16 ^ t) = c * 16 ^ s * 16 ^ h := by
    have : 16 ^ (h - t) * 16 ^ t = 16 ^ h := by rw [← Nat.pow_add]; congr 1; omega
    rw [← this]; simp only [Nat.mul_comm, Nat.mul_left_comm, Nat.mul_assoc]
  have hst : 0 < 16 ^ s * 16 ^ t := Nat.mul_pos hps hpt
  constructor
  · rw [← Nat.mul_lt_mul_right hp, ← k1, ← k2, Nat.mul_lt_mul_right hst]
  · rw [← Nat.mul_left_inj (Nat.ne_of_gt hp), ← k1, ← k2, Nat.mul_left_inj (Nat.ne_of_gt hst)]
theorem high_eq (s t : Nat) : (if (t : Int) > (s : Int) then (t : Int) else (s : Int)) = ((max s t : Nat) : Int) := by
  split <;> omega
theorem lt_words (a c : Nat) : (ordI (wN a) (wN c) == .lt) = decide ((a : Int) * 16 ^ ((if ((wN c).length : Int) > ((wN a).length : Int) then ((wN c).length : Int) else ((wN a).length : Int)) - ((wN a).length : Int)).toNat < (c : Int) * 16 ^ ((if ((wN c).length : Int) > ((wN a).length : Int) then ((wN c).length : Int) else ((wN a).length : Int)) - ((wN c).length : Int)).toNat ∨ ((a : Int) * 16 ^ ((if ((wN c).length : Int) > ((wN a).length : Int) then ((wN c).length : Int) else ((wN a).length : Int)) - ((wN a).length : Int)).toNat = (c : Int) * 16 ^ ((if ((wN c).length : Int) > ((wN a).length : Int) then ((wN c).length : Int) else ((wN a).length : Int)) - ((wN c).length : Int)).toNat ∧ ((wN a).length : Int) < ((wN c).length : Int))) := by
  rw [ord_wN, high_eq]
  generalize (wN a).length = s
  generalize (wN c).length = t
  rw [show (((max s t : Nat) : Int) - (s : Int)).toNat = max s t - s by omega, show (((max s t : Nat) : Int) - (t : Int)).toNat = max s t - t by omega]
  have hu := up_iff a c s t (max s t) (by omega) (by omega)
  rw [Bool.eq_iff_iff, decide_eq_true_eq, ← hu.1, ← hu.2, beq_iff_eq]
  unfold ordL
  generalize a * 16 ^ t = u
  generalize c * 16 ^ s = v
  repeat' split
  all_goals simp
  all_goals omega
theorem le_words (a c : Nat) : (ordI (wN a) (wN c) != .gt) = decide ((a : Int) * 16 ^ ((if ((wN c).length : Int) > ((wN a).length : Int) then ((wN c).length : Int) else ((wN a).length : Int)) - ((wN a).length : Int)).toNat < (c : Int) * 16 ^ ((if ((wN c).length : Int) > ((wN a).length : Int) then ((wN c).length : Int) else ((wN a).length : Int)) - ((wN c).length : Int)).toNat ∨ ((a : Int) * 16 ^ ((if ((wN c).length : Int) > ((wN a).length : Int) then ((wN c).length : Int) else ((wN a).length : Int)) - ((wN a).length : Int)).toNat = (c : Int) * 16 ^ ((if ((wN c).length : Int) > ((wN a).length : Int) then ((wN c).length : Int) else ((wN a).length : Int)) - ((wN c).length : Int)).toNat ∧ ((wN a).length : Int) ≤ ((wN c).length : Int))) := by
  rw [ord_wN, high_eq]
  generalize (wN a).length = s
  generalize (wN c).length = t
  rw [show (((max s t : Nat) : Int) - (s : Int)).toNat = max s t - s by omega, show (((max s t : Nat) : Int) - (t : Int)).toNat = max s t - t by omega]
  have hu := up_iff a c s t (max s t) (by omega) (by omega)
  rw [Bool.eq_iff_iff, decide_eq_true_eq, ← hu.1, ← hu.2]
  unfold ordL
  generalize a * 16 ^ t = u
  generalize c * 16 ^ s = v
  repeat' split
  all_goals simp
  all_goals omega
theorem le_words2 (a c : Nat) : (ordI (wN c) (wN a) != .gt) = decide ((c : Int) * 16 ^ ((if ((wN c).length : Int) > ((wN a).length : Int) then ((wN c).length : Int) else ((wN a).length : Int)) - ((wN c).length : Int)).toNat < (a : Int) * 16 ^ ((if ((wN c).length : Int) > ((wN a).length : Int) then ((wN c).length : Int) else ((wN a).length : Int)) - ((wN a).length : Int)).toNat ∨ ((c : Int) * 16 ^ ((if ((wN c).length : Int) > ((wN a).length : Int) then ((wN c).length : Int) else ((wN a).length : Int)) - ((wN c).length : Int)).toNat = (a : Int) * 16 ^ ((if ((wN c).length : Int) > ((wN a).length : Int) then ((wN c).length : Int) else ((wN a).length : Int)) - ((wN a).length : Int)).toNat ∧ ((wN c).length : Int) ≤ ((wN a).length : Int))) := by
  rw [ord_wN, high_eq]
  generalize (wN a).length = s
  generalize (wN c).length = t
  rw [show (((max s t : Nat) : Int) - (s : Int)).toNat = max s t - s by omega, show (((max s t : Nat) : Int) - (t : Int)).toNat = max s t - t by omega]
  have hu := up_iff c a t s (max s t) (by omega) (by omega)
  rw [Bool.eq_iff_iff, decide_eq_true_eq, ← hu.1, ← hu.2]
  unfold ordL
  generalize a * 16 ^ t = u
  generalize c * 16 ^ s = v
  repeat' split
  all_goals simp
  all_goals omega
end Mine
end
section
open PySem PySem.W PyProof.Rows PySem.Calls
set_option maxRecDepth 100000
namespace Mine
local macro_rules | `(tactic| walk_at "compareOp Lt bytes bytes") => `(tactic| (k_here; (refine lt_K (by assumption) (by assumption) ?_)))
local macro_rules | `(tactic| walk_at "compareOp LtE bytes bytes") => `(tactic| (k_here; (refine le_K (by assumption) (by assumption) ?_)))
local macro_rules | `(tactic| walk_at "compareOp In bytes bytes") => `(tactic| (k_here; (refine in_K (by k_asm) (by k_asm) rfl (by assumption) (by assumption) ?_); intro h' tk' F' N'))
local macro_rules | `(tactic| walk_at "binaryOp Mult bytes int") => `(tactic| (k_here; (refine mul_K (by assumption) (by omega) (by omega) (by omega) ?_); intro d' t' tk' hd'))
local macro_rules | `(tactic| walk_at "subscriptTail") => `(tactic| (k_here; (with_reducible show wpAny _ _ (subscriptTail _ _ (Value.bytes _ _) (Value.int _ _)) _ _ _); (refine item_out rfl (by assumption) (by omega) (by first | assumption | omega) (by omega) (by omega) ?_); intro h' tk' e' nx'))
local macro_rules | `(tactic| walk_at "call builtin:len") => `(tactic| (k_here; (with_reducible show wpAny _ _ (call (Value.builtin "len") [Value.int _ _]) _ _ _); (refine len_int rfl ?_); intro h' tk' e' nx'))
local macro_rules | `(tactic| walk_at "call type:type") => `(tactic| (k_here; (with_reducible show wpAny _ _ (call _ [Value.bytes _ _]) _ _ _); refine call_type_of (Tx := "bytes") rfl (by decide +kernel) ?_))
local macro_rules | `(tactic| walk_at "noteFrame ref") => `(tactic| (k_here; (rename Heap.NewExc _ _ _ _ => nxX); k_dflt (refine' caught_here (T' := "TypeError") (Heap.NewExc.of nxX) ?F ?N ?K ?XB ?TB ?D ?T0 ?ex PyProof.Rows.Boot.«TypeError» ?hn PySem.F.isExc_TypeError PySem.F.notTuple_TypeError ?hs ?_; (case F => assumption); (case N => assumption); (case K => assumption); (case XB => assumption); (case TB => assumption); (case D => assumption); (case T0 => assumption); (case hs => kts_sub); (case ex => k_is); (case hn => decide); k_whole); clear nxX; intro h' g' T' F' N' K' X' P' D'; (try k_lift K'); (try k_sweep)))
local macro_rules | `(tactic| walk_at "getAttr") => `(tactic| (k_here; (refine getAttr_miss_lh rfl ?_); intro h' tk' e' nx'))
local macro_rules | `(tactic| walk_at "noteFrame ref") => `(tactic| (k_here; (rename Heap.NewExcOf _ _ _ _ => nxX); k_dflt (refine' caught_here (T' := "AttributeError") nxX ?F ?N ?K ?XB ?TB ?D ?T0 ?ex boot_AttributeError ?hn isExc_AttributeError notTuple_AttributeError ?hs ?_; (case F => assumption); (case N => assumption); (case K => assumption); (case XB => assumption); (case TB => assumption); (case D => assumption); (case T0 => assumption); (case hs => exact PySem.sub_AttributeError); (case ex => k_is); (case hn => decide); k_whole); clear nxX; intro h' g' T' F' N' K' X' P' D'; (try k_lift K'); (try k_sweep)))
local macro_rules | `(tactic| walk_at "leaving ref") => `(tactic| (k_here; (rename Heap.NewExc _ _ _ _ => nxX); k_dflt (refine EndE.leave (by assumption) (by assumption) nxX (by rfl))))
local macro_rules | `(tactic| walk_at "exec For Name Name cons nil") => `(tactic| k_extra "myfor")
local macro_rules | `(tactic| walk_at "pyIter bytes") => `(tactic| k_extra "myiter")
local macro_rules | `(tactic| walk_at "pyIter ref") => `(tactic| k_extra "myiter")
local macro_rules | `(tactic| walk_at "binaryOp FloorDiv int int") => `(tactic| (k_here; (refine floordiv_int pow16_ne ?_ (Or.inl (PyProof.noPylong_small (pow16_small (by first | exact tn7a (by assumption) (by assumption) | exact tn7b (by assumption) (by assumption) | omega)))))))
local macro_rules | `(tactic| walk_at "binaryOp Mod int int") => `(tactic| (k_here; (first | refine mod_int' pow16_ne ?_ | refine mod_int' (nepl (by assumption) (by assumption)) ?_)))
local macro_rules | `(tactic| walk_at "CompSrc") => `(tactic| k_extra "mycomp")
local macro_rules | `(tactic| walk_at "eval ListComp") => `(tactic| k_extra "mylc")
local macro_rules | `(tactic| walk_at "CompSrcT") => `(tactic| k_extra "mycompT")
local macro_rules | `(tactic| walk_at "binaryOp Pow int int") => `(tactic| k_extra "mypow")
local macro_rules | `(tactic| walk_at "call builtin:len") => `(tactic| k_extra "mylen")
theorem fillT1 : Challenge.rw_nq0031_01 = Challenge.rw_nq0031_01 ∧ Mine.hd.heap_39 = Mine.hd.heap_39 := by k_with_none; k_fill; exact ⟨rfl, rfl⟩
theorem c_lt {b c : Array UInt8} {t u : Tok} {ks ls : List Int} (hb : KBw.bInts b = ks) (hc : KBw.bInts c = ls) : Con 1 21 [.bytes b t, .bytes c u] (fun _ => True) (fun v => v = .bool (ordI ks ls == .lt)) := by
  intro prog w mean mg mb dp un gd outer A₀ base s Q E B X T hd hu hp ret
  k_dflt (refine' con_enter (binds := [(Str.ofString "a", .bytes b t), (Str.ofString "b", .bytes c u)]) B X T (by omega) ret ?o ?c ?b ?l ?_ ?c2 ?c3 ?c4 ?c5; (case o => k_is); (case c => k_is); (case b => exact BindsTo.of_eq rfl); (case l => exact locs rfl); (case c2 => exact rfl); (case c3 => exact rfl); (case c4 => exact rfl); (case c5 => decide); k_whole)
  clear ret B A₀ Q E
  intro L' h' F' N' B'
  (try dsimp only)
  generalize htk0 : s.toks + List.length _ = tk0
  simp only [List.length_cons, List.length_nil] at htk0
  (try k_fold)
  k_steps
  all_goals (refine Fin.intro (by k_asm) ?_)
  all_goals rfl
theorem c_le {b c : Array UInt8} {t u : Tok} {ks ls : List Int} (hb : KBw.bInts b = ks) (hc : KBw.bInts c = ls) : Con 1 28 [.bytes b t, .bytes c u] (fun _ => True) (fun v => v = .bool (ordI ks ls != .gt)) := by
  intro prog w mean mg mb dp un gd outer A₀ base s Q E B X T hd hu hp ret
  k_dflt (refine' con_enter (binds := [(Str.ofString "a", .bytes b t), (Str.ofString "b", .bytes c u)]) B X T (by omega) ret ?o ?c ?b ?l ?_ ?c2 ?c3 ?c4 ?c5; (case o => k_is); (case c => k_is); (case b => exact BindsTo.of_eq rfl); (case l => exact locs rfl); (case c2 => exact rfl); (case c3 => exact rfl); (case c4 => exact rfl); (case c5 => decide); k_whole)
  clear ret B A₀ Q E
  intro L' h' F' N' B'
  (try dsimp only)
  generalize htk0 : s.toks + List.length _ = tk0
  simp only [List.length_cons, List.length_nil] at htk0
  (try k_fold)
  k_steps
  all_goals (refine Fin.intro (by k_asm) ?_)
  all_goals rfl
theorem c_contains {b c : Array UInt8} {t u : Tok} {ks ls : List Int} (hb : KBw.bInts b = ks) (hc : KBw.bInts c = ls) : Con 1 56 [.bytes b t, .bytes c u] (fun _ => True) (fun v => v = .bool (hasI ks ls)) := by
  intro prog w mean mg mb dp un gd outer A₀ base s Q E B X T hd hu hp ret
  k_dflt (refine' con_enter (binds := [(Str.ofString "a", .bytes b t), (Str.ofString "b", .bytes c u)]) B X T (by omega) ret ?o ?c ?b ?l ?_ ?c2 ?c3 ?c4 ?c5; (case o => k_is); (case c => k_is); (case b => exact BindsTo.of_eq rfl); (case l => exact locs rfl); (case c2 => exact rfl); (case c3 => exact rfl); (case c4 => exact rfl); (case c5 => decide); k_whole)
  clear ret B A₀ Q E
  intro L' h' F' N' B'
  (try dsimp only)
  generalize htk0 : s.toks + List.length _ = tk0
  simp only [List.length_cons, List.length_nil] at htk0
  (try k_fold)
  k_steps
  all_goals (refine Fin.intro (by k_asm) ?_)
  all_goals rfl
theorem c_truth {b : Array UInt8} {t : Tok} {ks : List Int} (hb : KBw.bInts b = ks) (hn : ks.length ≤ 100) : Con 1 35 [.bytes b t] (fun _ => True) (fun v => v = .bool (decide (0 < ks.length))) := by
  intro prog w mean mg mb dp un gd outer A₀ base s Q E B X T hd hu hp ret
  k_dflt (refine' con_enter (binds := [(Str.ofString "a", .bytes b t)]) B X T (by omega) ret ?o ?c ?b ?l ?_ ?c2 ?c3 ?c4 ?c5; (case o => k_is); (case c => k_is); (case b => exact BindsTo.of_eq rfl); (case l => exact locs rfl); (case c2 => exact rfl); (case c3 => exact rfl); (case c4 => exact rfl); (case c5 => decide); k_whole)
  clear ret B A₀ Q E
  intro L' h' F' N' B'
  (try dsimp only)
  generalize htk0 : s.toks + List.length _ = tk0
  simp only [List.length_cons, List.length_nil] at htk0
  (try k_fold)
  k_steps
  all_goals (refine Fin.intro (by k_asm) ?_)
  all_goals (simp_all; done)
theorem c_add {b c : Array UInt8} {t u : Tok} {ks ls : List Int} (hb : KBw.bInts b = ks) (hc : KBw.bInts c = ls) (h1 : ks.length ≤ 100) (h2 : ls.length ≤ 100) : Con 1 42 [.bytes b t, .bytes c u] (fun _ => True) (fun v => ∃ d t', v = .bytes d t' ∧ KBw.bInts d = ks ++ ls) := by
  intro prog w mean mg mb dp un gd outer A₀ base s Q E B X T hd hu hp ret
  k_dflt (refine' con_enter (binds := [(Str.ofString "a", .bytes b t), (Str.ofString "b", .bytes c u)]) B X T (by omega) ret ?o ?c ?b ?l ?_ ?c2 ?c3 ?c4 ?c5; (case o => k_is); (case c => k_is); (case b => exact BindsTo.of_eq rfl); (case l => exact locs rfl); (case c2 => exact rfl); (case c3 => exact rfl); (case c4 => exact rfl); (case c5 => decide); k_whole)
  clear ret B A₀ Q E
  intro L' h' F' N' B'
  (try dsimp only)
  generalize htk0 : s.toks + List.length _ = tk0
  simp only [List.length_cons, List.length_nil] at htk0
  (try k_fold)
  k_steps
  all_goals (refine Fin.intro (by k_asm) ?_)
  all_goals exact ⟨_, _, rfl, by assumption⟩
theorem c_mul {b : Array UInt8} {t u : Tok} {n : Int} {ks : List Int} (hb : KBw.bInts b = ks) (h1 : ks.length ≤ 16) (h2 : -10 ≤ n) (h3 : n ≤ 10) : Con 1 49 [.bytes b t, .int n u] (fun _ => True) (fun v => ∃ d t', v = .bytes d t' ∧ KBw.bInts d = (List.replicate n.toNat ks).flatten) := by
  intro prog w mean mg mb dp un gd outer A₀ base s Q E B X T hd hu hp ret
  k_dflt (refine' con_enter (binds := [(Str.ofString "a", .bytes b t), (Str.ofString "b", .int n u)]) B X T (by omega) ret ?o ?c ?b ?l ?_ ?c2 ?c3 ?c4 ?c5; (case o => k_is); (case c => k_is); (case b => exact BindsTo.of_eq rfl); (case l => exact locs rfl); (case c2 => exact rfl); (case c3 => exact rfl); (case c4 => exact rfl); (case c5 => decide); k_whole)
  clear ret B A₀ Q E
  intro L' h' F' N' B'
  (try dsimp only)
  generalize htk0 : s.toks + List.length _ = tk0
  simp only [List.length_cons, List.length_nil] at htk0
  (try k_fold)
  k_steps
  all_goals (refine Fin.intro (by k_asm) ?_)
  all_goals exact ⟨_, _, rfl, by assumption⟩
theorem fillT3 : Challenge.rw_nq0031_01 = Challenge.rw_nq0031_01 ∧ Mine.hd.heap_39 = Mine.hd.heap_39 := by k_with_none; k_fill; exact ⟨rfl, rfl⟩
theorem c_getitem {b : Array UInt8} {t u : Tok} {ks : List Int} {i : Int} (hb : KBw.bInts b = ks) (h1 : ks.length ≤ 100) (hi : 0 ≤ i) (hi2 : i < ks.length) : Con 1 70 [.bytes b t, .int i u] (fun _ => True) (fun v => ∃ t', v = .int (ks.getD i.toNat 0) t') := by
  intro prog w mean mg mb dp un gd outer A₀ base s Q E B X T hd hu hp ret
  k_dflt (refine' con_enter (binds := [(Str.ofString "a", .bytes b t), (Str.ofString "b", .int i u)]) B X T (by omega) ret ?o ?c ?b ?l ?_ ?c2 ?c3 ?c4 ?c5; (case o => k_is); (case c => k_is); (case b => exact BindsTo.of_eq rfl); (case l => exact locs rfl); (case c2 => exact rfl); (case c3 => exact rfl); (case c4 => exact rfl); (case c5 => decide); k_whole)
  clear ret B A₀ Q E
  intro L' h' F' N' B'
  (try dsimp only)
  generalize htk0 : s.toks + List.length _ = tk0
  simp only [List.length_cons, List.length_nil] at htk0
  (try k_fold)
  k_steps
  all_goals (refine Fin.intro (by k_asm) ?_)
  all_goals exact ⟨_, rfl⟩
theorem c_getitemR {b : Array UInt8} {t u : Tok} {ks : List Int} {i : Int} (hb : KBw.bInts b = ks) (h1 : ks.length ≤ 100) (hi : -(ks.length : Int) ≤ i) (hi2 : i < 0) : Con 1 70 [.bytes b t, .int i u] (fun _ => True) (fun v => ∃ t', v = .int (ks.getD (i + ks.length).toNat 0) t') := by
  intro prog w mean mg mb dp un gd outer A₀ base s Q E B X T hd hu hp ret
  k_dflt (refine' con_enter (binds := [(Str.ofString "a", .bytes b t), (Str.ofString "b", .int i u)]) B X T (by omega) ret ?o ?c ?b ?l ?_ ?c2 ?c3 ?c4 ?c5; (case o => k_is); (case c => k_is); (case b => exact BindsTo.of_eq rfl); (case l => exact locs rfl); (case c2 => exact rfl); (case c3 => exact rfl); (case c4 => exact rfl); (case c5 => decide); k_whole)
  clear ret B A₀ Q E
  intro L' h' F' N' B'
  (try dsimp only)
  generalize htk0 : s.toks + List.length _ = tk0
  simp only [List.length_cons, List.length_nil] at htk0
  (try k_fold)
  k_steps
  all_goals (refine Fin.intro (by k_asm) ?_)
  all_goals exact ⟨_, rfl⟩
theorem e_getitem {b : Array UInt8} {t u : Tok} {ks : List Int} {i : Int} (hb : KBw.bInts b = ks) (h1 : ks.length ≤ 100) (h2 : -1000 ≤ i) (h3 : i ≤ 1000) (hi : i < -(ks.length : Int) ∨ (ks.length : Int) ≤ i) : ConE 1 70 [.bytes b t, .int i u] (fun _ => True) "IndexError" := by
  intro prog w mean mg mb dp un gd outer A₀ base s Q E B X T hd hu hp ret
  k_dflt (refine' conE_enter (binds := [(Str.ofString "a", .bytes b t), (Str.ofString "b", .int i u)]) B X T (by omega) ret ?o ?c ?b ?l ?_ ?c2 ?c3 ?c4 ?c5; (case o => k_is); (case c => k_is); (case b => exact BindsTo.of_eq rfl); (case l => exact locs rfl); (case c2 => exact rfl); (case c3 => exact rfl); (case c4 => exact rfl); (case c5 => decide); k_whole)
  clear ret B A₀ Q E
  intro L' h' F' N' B'
  (try dsimp only)
  generalize htk0 : s.toks + List.length _ = tk0
  simp only [List.length_cons, List.length_nil] at htk0
  (try k_fold)
  k_steps
theorem s_beyond {b : Array UInt8} {t u : Tok} {ks : List Int} {i : Int} (hb : KBw.bInts b = ks) (h1 : ks.length ≤ 100) (h2 : -1000 ≤ i) (h3 : i ≤ 1000) (hi : i < -(ks.length : Int) ∨ (ks.length : Int) ≤ i) : ConS 2 113 [.bytes b t, .int i u] (fun _ => True) (fun v => v = .bool true) := by
  intro prog w mean mg mb dp un gd outer A₀ base s Q E B XB TB D hd hu hp ret
  k_dflt (refine' conS_enter (binds := [(Str.ofString "word", .bytes b t), (Str.ofString "place", .int i u)]) B XB TB D (by omega) ret ?o ?c ?b ?l ?_ ?c2 ?c3 ?c4 ?c5; (case o => k_is); (case c => k_is); (case b => exact BindsTo.of_eq rfl); (case l => exact locs rfl); (case c2 => exact rfl); (case c3 => exact rfl); (case c4 => exact rfl); (case c5 => decide); k_whole)
  clear ret B A₀ Q E
  intro L' h' F' N' B' X' T' T0
  (try dsimp only)
  generalize htk0 : s.toks + List.length _ = tk0
  simp only [List.length_cons, List.length_nil] at htk0
  (try k_fold)
  k_steps
  all_goals (refine ConE.use (e_getitem (by assumption) (by omega) (by omega) (by omega) (by omega)) (by k_asm) (by k_asm) (by k_asm) (by k_asm) rfl (by ktr_room) (by ktr_units) trivial ?_)
  all_goals (intro e' h' tk' R' U')
  k_steps
  all_goals (refine FinS.intro (by assumption) (by assumption) ?_)
  all_goals rfl
theorem fillT4 : Challenge.rw_nq0031_01 = Challenge.rw_nq0031_01 ∧ Mine.hd.heap_39 = Mine.hd.heap_39 := by k_with_none; k_fill; exact ⟨rfl, rfl⟩
theorem map_int2ap {x k : Int} {t u v1 v2 : Tok} {b : Array UInt8} : (fun y => if y = Str.ofString "num" then some (Value.int k u)
    else
      if y = Str.ofString "AP" then
        some (Value.bytes #[65, 66, 67, 68, 69, 70, 71, 72, 73, 74, 75, 76, 77, 78, 79, 80] v1)
      else
        if y = Str.ofString "val" then some (Value.bytes b v2)
        else List.lookup y [(Str.ofString "num", Value.int x t)].reverse) = (fun y => if y = Str.ofString "val" then some (Value.bytes b v2) else if y = Str.ofString "mod" then none else if y = Str.ofString "num" then some (Value.int k u) else if y = Str.ofString "AP" then
        some (Value.bytes #[65, 66, 67, 68, 69, 70, 71, 72, 73, 74, 75, 76, 77, 78, 79, 80] v1) else none) := by
  funext y
  by_cases h1 : y = Str.ofString "val"
  · subst h1; rfl
  by_cases h2 : y = Str.ofString "mod"
  · subst h2; rfl
  by_cases h3 : y = Str.ofString "num"
  · subst h3; rfl
  by_cases h4 : y = Str.ofString "AP"
  · subst h4; rfl
  simp [h1, h2, h3, h4, List.lookup_cons]
  split <;> simp_all
theorem ap_digit {r : Int} (h0 : 0 ≤ r) (h1 : r < 16) : List.take
        (clipAt ([65, 66, 67, 68, 69, 70, 71, 72, 73, 74, 75, 76, 77, 78, 79, 80] : List Int).length (r + 1) -
          clipAt ([65, 66, 67, 68, 69, 70, 71, 72, 73, 74, 75, 76, 77, 78, 79, 80] : List Int).length r)
        (List.drop (clipAt ([65, 66, 67, 68, 69, 70, 71, 72, 73, 74, 75, 76, 77, 78, 79, 80] : List Int).length r)
          ([65, 66, 67, 68, 69, 70, 71, 72, 73, 74, 75, 76, 77, 78, 79, 80] : List Int)) = [65 + r] := by
  have : r = 0 ∨ r = 1 ∨ r = 2 ∨ r = 3 ∨ r = 4 ∨ r = 5 ∨ r = 6 ∨ r = 7 ∨ r = 8 ∨ r = 9 ∨ r = 10 ∨ r = 11 ∨ r = 12 ∨ r = 13 ∨ r = 14 ∨ r = 15 := by omega
  rcases this with rfl | rfl | rfl | rfl | rfl | rfl | rfl | rfl | rfl | rfl | rfl | rfl | rfl | rfl | rfl | rfl <;> rfl
theorem map_int2ap2 {k q : Int} {u u2 v1 v2 v3 : Tok} {b b2 : Array UInt8} {o o2 : Option Value} : (fun y => if y = Str.ofString "val" then some (Value.bytes b2 v3) else if y = Str.ofString "mod" then o2 else if y = Str.ofString "num" then some (Value.int q u2) else 
      if y = Str.ofString "val" then some (Value.bytes b v2) else if y = Str.ofString "mod" then o else if y = Str.ofString "num" then some (Value.int k u) else if y = Str.ofString "AP" then
        some (Value.bytes #[65, 66, 67, 68, 69, 70, 71, 72, 73, 74, 75, 76, 77, 78, 79, 80] v1) else none) = (fun y => if y = Str.ofString "val" then some (Value.bytes b2 v3) else if y = Str.ofString "mod" then o2 else if y = Str.ofString "num" then some (Value.int q u2) else if y = Str.ofString "AP" then
        some (Value.bytes #[65, 66, 67, 68, 69, 70, 71, 72, 73, 74, 75, 76, 77, 78, 79, 80] v1) else none) := by
  funext y
  by_cases h1 : y = Str.ofString "val"
  · subst h1; rfl
  by_cases h2 : y = Str.ofString "mod"
  · subst h2; rfl
  by_cases h3 : y = Str.ofString "num"
  · subst h3; rfl
  simp [h1, h2, h3]
theorem fmod16 {k : Int} {n : Nat} (h0 : 0 ≤ k) (hn : k.toNat = n) : k.fmod 16 = ((n % 16 : Nat) : Int) ∧ (k.fdiv 16).toNat = n / 16 ∧ 0 ≤ k.fdiv 16 := by
  rw [Int.fmod_eq_emod_of_nonneg _ (by omega), Int.fdiv_eq_ediv_of_nonneg _ (by omega)]
  omega
theorem c_int2ap {x : Int} {t : Tok} (hx : x.natAbs < 2 ^ 60) : Con 1 92 [.int x t] (fun _ => True) (fun v => ∃ b t', v = .bytes b t' ∧ KBw.bInts b = wN x.natAbs) := by
  intro prog w mean mg mb dp un gd outer A₀ base s Q E B X T hd hu hp ret
  k_dflt (refine' con_enter (binds := [(Str.ofString "num", .int x t)]) B X T (by omega) ret ?o ?c ?b ?l ?_ ?c2 ?c3 ?c4 ?c5; (case o => k_is); (case c => k_is); (case b => exact BindsTo.of_eq rfl); (case l => exact locs rfl); (case c2 => exact rfl); (case c3 => exact rfl); (case c4 => exact rfl); (case c5 => decide); k_whole)
  clear ret B A₀ Q E
  intro L' h' F' N' B'
  (try dsimp only)
  generalize htk0 : s.toks + List.length _ = tk0
  simp only [List.length_cons, List.length_nil] at htk0
  (try k_fold)
  have hAP : KBw.bInts #[65, 66, 67, 68, 69, 70, 71, 72, 73, 74, 75, 76, 77, 78, 79, 80] = [65, 66, 67, 68, 69, 70, 71, 72, 73, 74, 75, 76, 77, 78, 79, 80] := rfl
  (k_with_none)
  (k_with "exec While Name cons nil" => (
    refine While_inv (J := fun n m₁ news₁ => news₁ = [] ∧ ∃ (k : Int) (u v1 v2 : Tok) (b : Array UInt8) (o : Option Value) (ks : List Int), 0 ≤ k ∧ k.toNat = n ∧ KBw.bInts b = ks ∧ wN n ++ ks = wN x.natAbs ∧ 
       m₁ = (fun y => if y = Str.ofString "val" then some (Value.bytes b v2) else if y = Str.ofString "mod" then o else if y = Str.ofString "num" then some (Value.int k u) else if y = Str.ofString "AP" then
        some (Value.bytes #[65, 66, 67, 68, 69, 70, 71, 72, 73, 74, 75, 76, 77, 78, 79, 80] v1) else none)) (n₀ := x.natAbs) (by k_asm) (by k_asm) ⟨rfl, _, _, _, _, _, none, [], ?i1, ?i2, rfl, ?i3, map_int2ap⟩ ?_
    (case i1 => (split <;> omega))
    (case i2 => (split <;> omega))
    (case i3 => simp)
    rintro n m₁ news₁ h₁ tk₁ F₁ N₁ ⟨rfl, k, u', v1', v2', b', o', ks', hk0, hkn, hb', hw', rfl⟩
    have hl' : ks'.length ≤ 16 := (by have := congrArg List.length hw'; have := wN_len (n := x.natAbs) (k := 15) (by omega); simp at *; omega)
    ))
  k_steps
  · rename (KBw.bInts (_ ++ _) = _) => hap
    rename (k ≠ 0) => hkz
    obtain ⟨e1, e2, e3⟩ := fmod16 hk0 hkn
    refine WhileStep.intro (news₂ := []) (n' := n / 16) (by k_asm) News.nil (by omega) ⟨rfl, _, _, _, _, _, _, _, e3, e2, hap, ?_, map_int2ap2⟩
    rw [ap_digit (by omega) (by omega), e1, wN_step (by omega), hw']
  · refine Fin.intro (by k_asm) ⟨_, _, rfl, ?_⟩
    have : n = 0 := by simp_all
    subst this
    rw [hb', ← hw', wN_zero]; rfl
theorem fillT5 : Challenge.rw_nq0031_01 = Challenge.rw_nq0031_01 ∧ Mine.hd.heap_39 = Mine.hd.heap_39 := by k_with_none; k_fill; exact ⟨rfl, rfl⟩
theorem map_size {x k : Int} {t u : Tok} : (fun y => if y = Str.ofString "size" then some (Value.int k u) else List.lookup y [(Str.ofString "m", Value.int x t)].reverse) = (fun y => if y = Str.ofString "size" then some (Value.int k u) else if y = Str.ofString "m" then some (Value.int x t) else none) := by
  funext y
  by_cases h1 : y = Str.ofString "size"
  · subst h1; rfl
  by_cases h2 : y = Str.ofString "m"
  · subst h2; rfl
  simp [h1, h2, List.lookup_cons]
  split <;> simp_all
theorem map_size2 {x k k2 : Int} {t u u2 : Tok} : (fun y => if y = Str.ofString "size" then some (Value.int k2 u2) else if y = Str.ofString "size" then some (Value.int k u) else if y = Str.ofString "m" then some (Value.int x t) else none) = (fun y => if y = Str.ofString "size" then some (Value.int k2 u2) else if y = Str.ofString "m" then some (Value.int x t) else none) := by
  funext y
  by_cases h1 : y = Str.ofString "size"
  · subst h1; rfl
  simp [h1]
theorem pow_le_toNat {x : Int} {k : Nat} (h : (16 : Int) ^ k ≤ x) (hx : 0 ≤ x) : 16 ^ k ≤ x.toNat := by
  have e : ((16 ^ k : Nat) : Int) = (16 : Int) ^ k := by simp
  omega
theorem pow_toNat_le {x : Int} {k : Nat} (h : 16 ^ k ≤ x.toNat) (hx : 0 ≤ x) : (16 : Int) ^ k ≤ x := by
  have e : ((16 ^ k : Nat) : Int) = (16 : Int) ^ k := by simp
  omega
theorem c_size {x : Int} {t : Tok} (hx : 0 ≤ x) (hx2 : x ≤ 65535) : Con 1 99 [.int x t] (fun _ => True) (fun v => ∃ t', v = .int ((wN x.toNat).length : Int) t') := by
  intro prog w mean mg mb dp un gd outer A₀ base s Q E B X T hd hu hp ret
  k_dflt (refine' con_enter (binds := [(Str.ofString "m", .int x t)]) B X T (by omega) ret ?o ?c ?b ?l ?_ ?c2 ?c3 ?c4 ?c5; (case o => k_is); (case c => k_is); (case b => exact BindsTo.of_eq rfl); (case l => exact locs rfl); (case c2 => exact rfl); (case c3 => exact rfl); (case c4 => exact rfl); (case c5 => decide); k_whole)
  clear ret B A₀ Q E
  intro L' h' F' N' B'
  (try dsimp only)
  generalize htk0 : s.toks + List.length _ = tk0
  simp only [List.length_cons, List.length_nil] at htk0
  (try k_fold)
  (k_with_none)
  (k_with "exec While Compare cons nil" => (
    refine While_inv (J := fun n m₁ news₁ => news₁ = [] ∧ ∃ (k : Int) (u : Tok), 0 ≤ k ∧ k ≤ 4 ∧ k.toNat + n = 5 ∧ (k.toNat = 0 ∨ 16 ^ (k.toNat - 1) ≤ x.toNat) ∧
       m₁ = (fun y => if y = Str.ofString "size" then some (Value.int k u) else if y = Str.ofString "m" then some (Value.int x t) else none)) (n₀ := 5) (by k_asm) (by k_asm) ⟨rfl, _, _, by omega, by omega, rfl, Or.inl rfl, map_size⟩ ?_
    rintro n m₁ news₁ h₁ tk₁ F₁ N₁ ⟨rfl, k, u', hk0, hk4, hkn, hkm, rfl⟩
    ))
  k_steps
  · rename ((16 : Int) ^ k.toNat ≤ x) => hle
    have hle' : 16 ^ k.toNat ≤ x.toNat := pow_le_toNat hle hx
    have hk3 : k.toNat < 4 := by
      refine Nat.lt_of_not_le fun h4 => ?_
      have := Nat.pow_le_pow_right (n := 16) (by decide) h4
      omega
    refine WhileStep.intro (news₂ := []) (n' := n - 1) (by k_asm) News.nil (by omega) ⟨rfl, _, _, ?_, ?_, ?_, ?_, map_size2⟩
    · omega
    · omega
    · omega
    · have e : (k + 1).toNat - 1 = k.toNat := by omega
      rw [e]; exact .inr hle'
  · rename (¬ (16 : Int) ^ k.toNat ≤ x) => hle
    refine Fin.intro (by k_asm) ⟨u', ?_⟩
    have : x.toNat < 16 ^ k.toNat := Nat.lt_of_not_le fun h => hle (pow_toNat_le h hx)
    have := wN_len_eq hkm this
    dsimp only
    rw [this]; congr 1; omega
theorem fillT6 : Challenge.rw_nq0031_01 = Challenge.rw_nq0031_01 ∧ Mine.hd.heap_39 = Mine.hd.heap_39 := by k_with_none; k_fill; exact ⟨rfl, rfl⟩
theorem c_hint {b : Array UInt8} {t u : Tok} {ks : List Int} {i : Int} (hb : KBw.bInts b = ks) (h1 : ks.length ≤ 100) : Con 1 85 [.bytes b t, .int i u] (fun _ => True) (fun v => ∃ t', v = .int (ks.length : Int) t') := by
  intro prog w mean mg mb dp un gd outer A₀ base s Q E B X T hd hu hp ret
  k_dflt (refine' con_enter (binds := [(Str.ofString "obj", .bytes b t), (Str.ofString "default", .int i u)]) B X T (by omega) ret ?o ?c ?b ?l ?_ ?c2 ?c3 ?c4 ?c5; (case o => k_is); (case c => k_is); (case b => exact kp_binds X (fun _ => rfl)); (case l => exact locs rfl); (case c2 => exact rfl); (case c3 => exact rfl); (case c4 => exact rfl); (case c5 => decide); k_whole)
  clear ret B A₀ Q E
  intro L' h' F' N' B'
  (try dsimp only)
  generalize htk0 : s.toks + List.length _ = tk0
  simp only [List.length_cons, List.length_nil] at htk0
  (try k_fold)
  k_steps
  all_goals (refine Fin.intro (by k_asm) ?_)
  all_goals exact ⟨_, rfl⟩
theorem c_hint0 {b : Array UInt8} {t : Tok} {ks : List Int} (hb : KBw.bInts b = ks) (h1 : ks.length ≤ 100) : Con 1 85 [.bytes b t] (fun _ => True) (fun v => ∃ t', v = .int (ks.length : Int) t') := by
  intro prog w mean mg mb dp un gd outer A₀ base s Q E B X T hd hu hp ret
  k_dflt (refine' con_enter (binds := [(Str.ofString "obj", .bytes b t), (Str.ofString "default", .int 0 264)]) B X T (by omega) ret ?o ?c ?b ?l ?_ ?c2 ?c3 ?c4 ?c5; (case o => k_is); (case c => k_is); (case b => exact kp_binds X (fun _ => rfl)); (case l => exact locs rfl); (case c2 => exact rfl); (case c3 => exact rfl); (case c4 => exact rfl); (case c5 => decide); k_whole)
  clear ret B A₀ Q E
  intro L' h' F' N' B'
  (try dsimp only)
  generalize htk0 : s.toks + List.length _ = tk0
  simp only [List.length_cons, List.length_nil] at htk0
  (try k_fold)
  k_steps
  all_goals (refine Fin.intro (by k_asm) ?_)
  all_goals exact ⟨_, rfl⟩
theorem s_hintI {x : Int} {t u : Tok} {i : Int} : ConS 1 85 [.int x t, .int i u] (fun _ => True) (fun v => v = .int i u) := by
  intro prog w mean mg mb dp un gd outer A₀ base s Q E B XB TB D hd hu hp ret
  k_dflt (refine' conS_enter (binds := [(Str.ofString "obj", .int x t), (Str.ofString "default", .int i u)]) B XB TB D (by omega) ret ?o ?c ?b ?l ?_ ?c2 ?c3 ?c4 ?c5; (case o => k_is); (case c => k_is); (case b => exact kp_binds (XB.keeps B.stays) (fun _ => rfl)); (case l => exact locs rfl); (case c2 => exact rfl); (case c3 => exact rfl); (case c4 => exact rfl); (case c5 => decide); k_whole)
  clear ret B A₀ Q E
  intro L' h' F' N' B' X' T' T0
  (try dsimp only)
  generalize htk0 : s.toks + List.length _ = tk0
  simp only [List.length_cons, List.length_nil] at htk0
  (try k_fold)
  k_steps
  all_goals (refine FinS.intro (by assumption) (by assumption) ?_)
  all_goals rfl
set_option maxHeartbeats 2000000 in
theorem e_hint {b : Array UInt8} {t u : Tok} {ks : List Int} (hb : KBw.bInts b = ks) (h1 : ks.length ≤ 100) : ConE 1 85 [.bytes b t, .bytes b u] (fun _ => True) "TypeError" := by
  intro prog w mean mg mb dp un gd outer A₀ base s Q E B X T hd hu hp ret
  k_dflt (refine' conE_enter (binds := [(Str.ofString "obj", .bytes b t), (Str.ofString "default", .bytes b u)]) B X T (by omega) ret ?o ?c ?b ?l ?_ ?c2 ?c3 ?c4 ?c5; (case o => k_is); (case c => k_is); (case b => exact kp_binds X (fun _ => rfl)); (case l => exact locs rfl); (case c2 => exact rfl); (case c3 => exact rfl); (case c4 => exact rfl); (case c5 => decide); k_whole)
  clear ret B A₀ Q E
  intro L' h' F' N' B'
  (try dsimp only)
  generalize htk0 : s.toks + List.length _ = tk0
  simp only [List.length_cons, List.length_nil] at htk0
  (try k_fold)
  k_steps
theorem s_unfit {b : Array UInt8} {t : Tok} {ks : List Int} (hb : KBw.bInts b = ks) (h1 : ks.length ≤ 100) : ConS 2 120 [.bytes b t] (fun _ => True) (fun v => v = .bool true) := by
  intro prog w mean mg mb dp un gd outer A₀ base s Q E B XB TB D hd hu hp ret
  k_dflt (refine' conS_enter (binds := [(Str.ofString "word", .bytes b t)]) B XB TB D (by omega) ret ?o ?c ?b ?l ?_ ?c2 ?c3 ?c4 ?c5; (case o => k_is); (case c => k_is); (case b => exact BindsTo.of_eq rfl); (case l => exact locs rfl); (case c2 => exact rfl); (case c3 => exact rfl); (case c4 => exact rfl); (case c5 => decide); k_whole)
  clear ret B A₀ Q E
  intro L' h' F' N' B' X' T' T0
  (try dsimp only)
  generalize htk0 : s.toks + List.length _ = tk0
  simp only [List.length_cons, List.length_nil] at htk0
  (try k_fold)
  (k_with_none)
  (k_with "call ref" => (refine ConE.use (e_hint (by assumption) (by omega)) (by k_asm) (by k_asm) (by k_asm) (by k_asm) rfl (by ktr_room) (by ktr_units) trivial ?_; intro e' h' tk' R' U'))
  k_steps
  all_goals (refine FinS.intro (by assumption) (by assumption) ?_)
  all_goals rfl
theorem fillT7 : Challenge.rw_nq0031_01 = Challenge.rw_nq0031_01 ∧ Mine.hd.heap_39 = Mine.hd.heap_39 := by k_with_none; k_fill; exact ⟨rfl, rfl⟩
theorem map_index {v1 v2 : Value} : (fun y => List.lookup y [(Str.ofString "a", v1), (Str.ofString "b", v2)].reverse) = (fun y => if y = Str.ofString "j" then none else if y = Str.ofString "i" then none else if y = Str.ofString "a" then some v1 else if y = Str.ofString "b" then some v2 else none) := by
  funext y
  by_cases h1 : y = Str.ofString "j"
  · subst h1; rfl
  by_cases h2 : y = Str.ofString "i"
  · subst h2; rfl
  by_cases h3 : y = Str.ofString "a"
  · subst h3; rfl
  by_cases h4 : y = Str.ofString "b"
  · subst h4; rfl
  simp only [h1, h2, h3, h4, if_false, List.reverse_cons, List.reverse_nil, List.nil_append, List.cons_append, List.lookup_cons, List.lookup_nil]
  rw [beq_false_of_ne h3, beq_false_of_ne h4]
theorem map_index2 {v1 v2 : Value} {o1 o2 o3 o4 : Option Value} : (fun y => if y = Str.ofString "j" then o1 else if y = Str.ofString "i" then o2 else (if y = Str.ofString "j" then o3 else if y = Str.ofString "i" then o4 else if y = Str.ofString "a" then some v1 else if y = Str.ofString "b" then some v2 else none)) = (fun y => if y = Str.ofString "j" then o1 else if y = Str.ofString "i" then o2 else if y = Str.ofString "a" then some v1 else if y = Str.ofString "b" then some v2 else none) := by
  funext y
  by_cases h1 : y = Str.ofString "j"
  · subst h1; rfl
  by_cases h2 : y = Str.ofString "i"
  · subst h2; rfl
  simp [h1, h2]
theorem idx_at {b : Array UInt8} {ks : List Int} {c : Int} {i : Nat} {c' : UInt8} (hb : KBw.bInts b = ks) (hc' : b[i]? = some c') (e : (c'.toNat : Int) = c) : ks[i]? = some c := by
  rw [← hb, ← e]; exact KBw.ints_get hc'
theorem idx_not {b : Array UInt8} {ks : List Int} {c : Int} {i : Nat} {c' : UInt8} (hb : KBw.bInts b = ks) (hc' : b[i]? = some c') (hno : ∀ k, k < i → ks[k]? ≠ some c) (e : ¬ (c'.toNat : Int) = c) : ∀ k, k < i + 1 → ks[k]? ≠ some c := by
  intro k hk h
  rcases Nat.lt_or_ge k i with q | q
  · exact hno k q h
  · have : k = i := by omega
    subst this
    rw [← hb, KBw.ints_get hc'] at h
    exact e (Option.some.inj h)
theorem idx_eq {ks : List Int} {c : Int} {i j : Nat} (hi : ks[i]? = some c) (hno : ∀ k, k < i → ks[k]? ≠ some c) (hj : ks[j]? = some c) (hbef : ∀ k, k < j → ks[k]? ≠ some c) : i = j := by
  rcases Nat.lt_trichotomy i j with q | q | q
  · exact absurd hi (hbef i q)
  · exact q
  · exact absurd hj (hno j q)
theorem c_index {b : Array UInt8} {t u : Tok} {ks : List Int} {c : Int} {j : Nat} (hb : KBw.bInts b = ks) (h1 : ks.length ≤ 100) (hj : ks[j]? = some c) (hbef : ∀ k, k < j → ks[k]? ≠ some c) :
    Con 1 77 [.bytes b t, .int c u] (fun s => TokOk u s) (fun v => ∃ t', v = .int (j : Int) t') := by
  intro prog w mean mg mb dp un gd outer A₀ base s Q E B X T hd hu hp ret
  k_dflt (refine' con_enter (binds := [(Str.ofString "a", .bytes b t), (Str.ofString "b", .int c u)]) B X T (by omega) ret ?o ?c ?b ?l ?_ ?c2 ?c3 ?c4 ?c5; (case o => k_is); (case c => k_is); (case b => exact BindsTo.of_eq rfl); (case l => exact locs rfl); (case c2 => exact rfl); (case c3 => exact rfl); (case c4 => exact rfl); (case c5 => decide); k_whole)
  clear ret B A₀ Q E
  intro L' h' F' N' B'
  (try dsimp only)
  generalize htk0 : s.toks + List.length _ = tk0
  simp only [List.length_cons, List.length_nil] at htk0
  (try k_fold)
  (k_with_none)
  (k_with "exec For Tuple Call cons cons" => (refine wpAny_For ?_))
  (k_with "call type:enumerate" => (refine enumerate_bytesK (by k_asm) (by k_asm) ?_; intro h' e' it' F' N' eb'))
  (k_with "compareOp Is int int" => (refine TokOk.is hp (by assumption) (by omega) (by omega) ?_))
  (k_with "pyIter ref" => (
     rename EnumB _ _ _ _ _ _ _ => eb'
     refine wpAny_pyIter_enum eb'.he ?_
     refine for_enum (nexts_bytes _ b t) rfl rfl rfl rfl eb'.he eb'.hit (by k_asm) eb'.ne eb'.e0 eb'.it0 eb'.eL eb'.itL (u + 1) ?t1 (fun i m₁ => (∀ k, k < i → ks[k]? ≠ some c) ∧ ∃ o1 o2, m₁ = (fun y => if y = Str.ofString "j" then o1 else if y = Str.ofString "i" then o2 else if y = Str.ofString "a" then some (.bytes b t) else if y = Str.ofString "b" then some (.int c u) else none)) ?t2 ?t3 ?t4 (by passes_own)
     (case t1 => exact hp.le (by dsimp only; omega))
     (case t2 => exact ⟨fun k hk => absurd hk (Nat.not_lt_zero _), none, none, map_index⟩)
     (case' t3 => (rintro i x tk tk' tk₂ m₁ h₁ oe oit hin hge hle ⟨c', hc', rfl⟩ ⟨hno, o1, o2, rfl⟩ F₁ N₁; have hc9 := KBw.ints_in (List.mem_of_getElem? (KBw.ints_get hc'))))
     (case' t4 => (rintro m₁ h₁ tk₁ ⟨hno, o1, o2, rfl⟩ F₁))
     ))
  k_steps
  · have h9 : j < ks.length := (List.getElem?_eq_some_iff.mp hj).1
    rw [← hb, KBw.ints_length] at h9
    exact hno j h9 hj
  · rename ((_ : Int) = c) => he9
    have := idx_eq (idx_at hb hc' he9) hno hj hbef
    subst this
    dsimp only
    unfold TurnEnd
    dsimp only
    refine Fin.intro (by assumption) ?_
    exact ⟨_, rfl⟩
  · rename (¬ (_ : Int) = c) => hn9
    rename ((_ : Int) = c) => he9
    exact absurd he9 hn9
  · rename (¬ (_ : Int) = c) => hn9
    exact TurnEnd.next (by assumption) (by assumption) ⟨idx_not hb hc' hno hn9, _, _, map_index2⟩
theorem e_index {b : Array UInt8} {t u : Tok} {ks : List Int} {c : Int} (hb : KBw.bInts b = ks) (h1 : ks.length ≤ 100) (hall : ∀ k : Nat, ks[k]? ≠ some c) :
    ConE 1 77 [.bytes b t, .int c u] (fun s => TokOk u s) "ValueError" := by
  intro prog w mean mg mb dp un gd outer A₀ base s Q E B X T hd hu hp ret
  k_dflt (refine' conE_enter (binds := [(Str.ofString "a", .bytes b t), (Str.ofString "b", .int c u)]) B X T (by omega) ret ?o ?c ?b ?l ?_ ?c2 ?c3 ?c4 ?c5; (case o => k_is); (case c => k_is); (case b => exact BindsTo.of_eq rfl); (case l => exact locs rfl); (case c2 => exact rfl); (case c3 => exact rfl); (case c4 => exact rfl); (case c5 => decide); k_whole)
  clear ret B A₀ Q E
  intro L' h' F' N' B'
  (try dsimp only)
  generalize htk0 : s.toks + List.length _ = tk0
  simp only [List.length_cons, List.length_nil] at htk0
  (try k_fold)
  (k_with_none)
  (k_with "exec For Tuple Call cons cons" => (refine wpAny_For ?_))
  (k_with "call type:enumerate" => (refine enumerate_bytesK (by k_asm) (by k_asm) ?_; intro h' e' it' F' N' eb'))
  (k_with "compareOp Is int int" => (refine TokOk.is hp (by assumption) (by omega) (by omega) ?_))
  (k_with "pyIter ref" => (
     rename EnumB _ _ _ _ _ _ _ => eb'
     refine wpAny_pyIter_enum eb'.he ?_
     refine for_enum (nexts_bytes _ b t) rfl rfl rfl rfl eb'.he eb'.hit (by k_asm) eb'.ne eb'.e0 eb'.it0 eb'.eL eb'.itL (u + 1) ?t1 (fun i m₁ => (∀ k, k < i → ks[k]? ≠ some c) ∧ ∃ o1 o2, m₁ = (fun y => if y = Str.ofString "j" then o1 else if y = Str.ofString "i" then o2 else if y = Str.ofString "a" then some (.bytes b t) else if y = Str.ofString "b" then some (.int c u) else none)) ?t2 ?t3 ?t4 (by passes_own)
     (case t1 => exact hp.le (by dsimp only; omega))
     (case t2 => exact ⟨fun k hk => absurd hk (Nat.not_lt_zero _), none, none, map_index⟩)
     (case' t3 => (rintro i x tk tk' tk₂ m₁ h₁ oe oit hin hge hle ⟨c', hc', rfl⟩ ⟨hno, o1, o2, rfl⟩ F₁ N₁; have hc9 := KBw.ints_in (List.mem_of_getElem? (KBw.ints_get hc'))))
     (case' t4 => (rintro m₁ h₁ tk₁ ⟨hno, o1, o2, rfl⟩ F₁))
     ))
  k_steps
  · rename ((_ : Int) = c) => he9
    exact absurd (idx_at hb hc' he9) (hall i)
  · rename ((_ : Int) = c) => he9
    exact absurd (idx_at hb hc' he9) (hall i)
  · rename (¬ (_ : Int) = c) => hn9
    exact TurnEnd.next (by assumption) (by assumption) ⟨idx_not hb hc' hno hn9, _, _, map_index2⟩
/-- the first place of c in ks, or -1 -/
def placeI : List Int → Int → Int → Int
  | [], _, _ => -1
  | k :: r, c, n => if k = c then n else placeI r c (n + 1)
theorem placeI_none {ks : List Int} {c n : Int} (h : ∀ k : Nat, ks[k]? ≠ some c) : placeI ks c n = -1 := by
  induction ks generalizing n with
  | nil => rfl
  | cons k r ih =>
    have h0 : k ≠ c := fun e => h 0 (by simp [e])
    rw [placeI, if_neg h0]
    exact ih fun j => by simpa using h (j + 1)
theorem placeI_some {ks : List Int} {c n : Int} {j : Nat} (hj : ks[j]? = some c) (hbef : ∀ k, k < j → ks[k]? ≠ some c) : placeI ks c n = n + j := by
  induction ks generalizing n j with
  | nil => simp at hj
  | cons k r ih =>
    cases j with
    | zero =>
      have : k = c := by simpa using hj
      rw [placeI, if_pos this]; simp
    | succ j =>
      have h0 : k ≠ c := fun e => hbef 0 (Nat.succ_pos _) (by simp [e])
      rw [placeI, if_neg h0, ih (j := j) (by simpa using hj) fun i hi => by simpa using hbef (i + 1) (by omega)]
      omega
theorem place_cases (ks : List Int) (c : Int) : (∀ k : Nat, ks[k]? ≠ some c) ∨ ∃ j : Nat, ks[j]? = some c ∧ ∀ k, k < j → ks[k]? ≠ some c := by
  induction ks with
  | nil => exact .inl fun k => by simp
  | cons x r ih =>
    by_cases h : x = c
    · exact .inr ⟨0, by simp [h], fun k hk => absurd hk (Nat.not_lt_zero _)⟩
    · rcases ih with ih | ⟨j, hj, hb⟩
      · refine .inl fun k => ?_
        cases k with
        | zero => simpa using h
        | succ k => simpa using ih k
      · refine .inr ⟨j + 1, by simpa using hj, fun k hk => ?_⟩
        cases k with
        | zero => simpa using h
        | succ k => simpa using hb k (by omega)
theorem s_where {b : Array UInt8} {t u : Tok} {ks : List Int} {c : Int} (hb : KBw.bInts b = ks) (h1 : ks.length ≤ 100) :
    ConS 2 106 [.bytes b t, .int c u] (fun s => TokOk u s) (fun v => ∃ t', v = .int (placeI ks c 0) t') := by
  intro prog w mean mg mb dp un gd outer A₀ base s Q E B XB TB D hd hu hp ret
  k_dflt (refine' conS_enter (binds := [(Str.ofString "things", .bytes b t), (Str.ofString "one", .int c u)]) B XB TB D (by omega) ret ?o ?c ?b ?l ?_ ?c2 ?c3 ?c4 ?c5; (case o => k_is); (case c => k_is); (case b => exact BindsTo.of_eq rfl); (case l => exact locs rfl); (case c2 => exact rfl); (case c3 => exact rfl); (case c4 => exact rfl); (case c5 => decide); k_whole)
  clear ret B A₀ Q E
  intro L' h' F' N' B' X' T' T0
  (try dsimp only)
  generalize htk0 : s.toks + List.length _ = tk0
  simp only [List.length_cons, List.length_nil] at htk0
  (try k_fold)
  rcases place_cases ks c with hall | ⟨j, hj, hbef⟩
  · (k_with_none)
    (k_with "call ref" => (refine ConE.use (e_index (by assumption) (by omega) (by assumption)) (by k_asm) (by k_asm) (by k_asm) (by k_asm) rfl (by ktr_room) (by ktr_units) (hp.mono (by dsimp only; omega)) ?_; intro e' h' tk' R' U'))
    k_steps
    all_goals (refine FinS.intro (by assumption) (by assumption) ?_)
    exact ⟨_, by rw [placeI_none hall]⟩
  · (k_with_none)
    (k_with "call ref" => (refine Con.use (c_index (by assumption) (by omega) (by assumption) (by assumption)) (by k_asm) (by k_asm) (by k_asm) (by k_asm) (by k_asm) rfl (by ktr_room) (by ktr_units) (hp.mono (by dsimp only; omega)) ?_; rintro v' h' tk' ⟨t', rfl⟩ F' N'))
    k_steps
    all_goals (refine FinS.intro (by assumption) (by assumption) ?_)
    exact ⟨_, by rw [placeI_some hj hbef, Int.zero_add]⟩
theorem fillT8 : Challenge.rw_nq0031_01 = Challenge.rw_nq0031_01 ∧ Mine.hd.heap_39 = Mine.hd.heap_39 := by k_with_none; k_fill; exact ⟨rfl, rfl⟩
theorem map_cnt {v0 v1 v2 : Value} : (fun y => if y = Str.ofString "count" then some v0 else List.lookup y [(Str.ofString "a", v1), (Str.ofString "b", v2)].reverse) = (fun y => if y = Str.ofString "count" then some v0 else if y = Str.ofString "i" then none else if y = Str.ofString "a" then some v1 else if y = Str.ofString "b" then some v2 else none) := by
  funext y
  by_cases h1 : y = Str.ofString "count"
  · subst h1; rfl
  by_cases h2 : y = Str.ofString "i"
  · subst h2; rfl
  by_cases h3 : y = Str.ofString "a"
  · subst h3; rfl
  by_cases h4 : y = Str.ofString "b"
  · subst h4; rfl
  simp only [h1, h2, h3, h4, if_false, List.reverse_cons, List.reverse_nil, List.nil_append, List.cons_append, List.lookup_cons, List.lookup_nil]
  rw [beq_false_of_ne h3, beq_false_of_ne h4]
theorem map_cnt2 {v0 v1 v2 : Value} {o1 o2 : Option Value} : (fun y => if y = Str.ofString "i" then o1 else (if y = Str.ofString "count" then some v0 else if y = Str.ofString "i" then o2 else if y = Str.ofString "a" then some v1 else if y = Str.ofString "b" then some v2 else none)) = (fun y => if y = Str.ofString "count" then some v0 else if y = Str.ofString "i" then o1 else if y = Str.ofString "a" then some v1 else if y = Str.ofString "b" then some v2 else none) := by
  funext y
  by_cases h1 : y = Str.ofString "count"
  · subst h1; rfl
  by_cases h2 : y = Str.ofString "i"
  · subst h2; rfl
  simp [h1, h2]
theorem map_cnt3 {v0 v3 v1 v2 : Value} {o1 o2 : Option Value} : (fun y => if y = Str.ofString "count" then some v3 else if y = Str.ofString "i" then o1 else (if y = Str.ofString "count" then some v0 else if y = Str.ofString "i" then o2 else if y = Str.ofString "a" then some v1 else if y = Str.ofString "b" then some v2 else none)) = (fun y => if y = Str.ofString "count" then some v3 else if y = Str.ofString "i" then o1 else if y = Str.ofString "a" then some v1 else if y = Str.ofString "b" then some v2 else none) := by
  funext y
  by_cases h1 : y = Str.ofString "count"
  · subst h1; rfl
  by_cases h2 : y = Str.ofString "i"
  · subst h2; rfl
  simp [h1, h2]
theorem cnt_at {b : Array UInt8} {ks : List Int} {c : Int} {i : Nat} {c' : UInt8} (hb : KBw.bInts b = ks) (hc' : b[i]? = some c') (e : (c'.toNat : Int) = c) : ((ks.take (i + 1)).count c : Int) = ((ks.take i).count c : Int) + 1 := by
  have : ks[i]? = some c := by rw [← hb, ← e]; exact KBw.ints_get hc'
  rw [List.take_succ, this, List.count_append]; simp
theorem cnt_not {b : Array UInt8} {ks : List Int} {c : Int} {i : Nat} {c' : UInt8} (hb : KBw.bInts b = ks) (hc' : b[i]? = some c') (e : ¬ (c'.toNat : Int) = c) : ((ks.take (i + 1)).count c : Int) = ((ks.take i).count c : Int) := by
  have : ks[i]? = some (c'.toNat : Int) := by rw [← hb]; exact KBw.ints_get hc'
  rw [List.take_succ, this, List.count_append]; simp [e]
theorem c_count {b : Array UInt8} {t u : Tok} {ks : List Int} {c : Int} (hb : KBw.bInts b = ks) (h1 : ks.length ≤ 100) :
    Con 1 63 [.bytes b t, .int c u] (fun s => TokOk u s) (fun v => ∃ t', v = .int (ks.count c : Int) t') := by
  intro prog w mean mg mb dp un gd outer A₀ base s Q E B X T hd hu hp ret
  k_dflt (refine' con_enter (binds := [(Str.ofString "a", .bytes b t), (Str.ofString "b", .int c u)]) B X T (by omega) ret ?o ?c ?b ?l ?_ ?c2 ?c3 ?c4 ?c5; (case o => k_is); (case c => k_is); (case b => exact BindsTo.of_eq rfl); (case l => exact locs rfl); (case c2 => exact rfl); (case c3 => exact rfl); (case c4 => exact rfl); (case c5 => decide); k_whole)
  clear ret B A₀ Q E
  intro L' h' F' N' B'
  (try dsimp only)
  generalize htk0 : s.toks + List.length _ = tk0
  simp only [List.length_cons, List.length_nil] at htk0
  (try k_fold)
  (k_with_none)
  (k_with "myfor" => (k_dflt (refine wpAny_For ?_)))
  (k_with "compareOp Is int int" => (refine TokOk.is hp (by assumption) (by omega) (by omega) ?_))
  (k_with "myiter" => (
     refine iter_bytesK (by k_asm) (by k_asm) ?_
     intro h' it' F' N' ib'
     k_dflt (refine for_each (steps_bytes rfl _ b t) rfl rfl ib'.hit (by k_asm) News.nil ib'.it0 ib'.itL (fun _ h => nomatch h) (u + 1) ?t1 (fun i m₁ => ∃ o1 u1, m₁ = (fun y => if y = Str.ofString "count" then some (.int ((ks.take i).count c : Int) u1) else if y = Str.ofString "i" then o1 else if y = Str.ofString "a" then some (.bytes b t) else if y = Str.ofString "b" then some (.int c u) else none)) ?t2 ?t3 ?t4 (by passes_own))
     (case t1 => exact hp.le (by dsimp only; omega))
     (case t2 => exact ⟨none, _, map_cnt⟩)
     (case' t3 => (rintro i x tk tk₂ m₁ h₁ oit hin hge ⟨c', hc', rfl⟩ ⟨o1, u1, rfl⟩ F₁ N₁; have hc9 := KBw.ints_in (List.mem_of_getElem? (KBw.ints_get hc'))))
     (case' t4 => (rintro m₁ h₁ tk₁ ⟨o1, u1, rfl⟩ F₁ N₁))
     ))
  k_steps
  · refine Fin.intro (by assumption) ⟨u1, ?_⟩
    rw [← KBw.ints_length b, hb, List.take_length]
  · rename ((_ : Int) = c) => he9
    refine TurnEnd.next (by assumption) (by assumption) ⟨?ta, ?tb, ?tc⟩
    case tc => (rw [cnt_at hb hc' he9]; exact map_cnt3)
  · rename (¬ (_ : Int) = c) => hn9
    rename ((_ : Int) = c) => he9
    exact absurd he9 hn9
  · rename (¬ (_ : Int) = c) => hn9
    refine TurnEnd.next (by assumption) (by assumption) ⟨?ua, ?ub, ?uc⟩
    case uc => (rw [cnt_not hb hc' hn9]; exact map_cnt2)
theorem fillT9 : Challenge.rw_nq0031_01 = Challenge.rw_nq0031_01 ∧ Mine.hd.heap_39 = Mine.hd.heap_39 := by k_with_none; k_fill; exact ⟨rfl, rfl⟩
theorem idxL_not {ds : List Int} {c d : Int} {i : Nat} (hd : ds[i]? = some d) (hno : ∀ k, k < i → ds[k]? ≠ some c) (e : ¬ d = c) : ∀ k, k < i + 1 → ds[k]? ≠ some c := by
  intro k hk h
  rcases Nat.lt_or_ge k i with q | q
  · exact hno k q h
  · have : k = i := by omega
    subst this
    rw [hd] at h
    exact e (Option.some.inj h)
theorem c_indexL {R V : Addr} {ds : List Int} {c : Int} {j : Nat} (hj : ds[j]? = some c) (hbef : ∀ k, k < j → ds[k]? ≠ some c) :
    Con 1 77 [.ref R, .ref V] (fun s => RowAt s.heap R ds ∧ OneAt s.heap V c) (fun v => ∃ t', v = .int (j : Int) t') := by
  intro prog w mean mg mb dp un gd outer A₀ base s Q E B X T hd hu hp ret
  k_dflt (refine' con_enter (binds := [(Str.ofString "a", .ref R), (Str.ofString "b", .ref V)]) B X T (by omega) ret ?o ?c ?b ?l ?_ ?c2 ?c3 ?c4 ?c5; (case o => k_is); (case c => k_is); (case b => exact BindsTo.of_eq rfl); (case l => exact locs rfl); (case c2 => exact rfl); (case c3 => exact rfl); (case c4 => exact rfl); (case c5 => decide); k_whole)
  clear ret B A₀ Q E
  intro L' h' F' N' B'
  (try dsimp only)
  generalize htk0 : s.toks + List.length _ = tk0
  simp only [List.length_cons, List.length_nil] at htk0
  (try k_fold)
  obtain ⟨⟨items, hR, hrow⟩, hB⟩ := hp
  (k_with_none)
  (k_with "exec For Tuple Call cons cons" => (k_dflt (refine wpAny_For ?_)))
  (k_with "call type:enumerate" => (refine enumerate_listK hR (by k_asm) (by k_asm) ?_; intro h' e' it' F' N' eb'))
  (k_with "compareOp Is ref ref" => (refine is_ones (OneAt.up (by assumption) (Fr.keep (by k_asm))) (OneAt.up hB (Fr.keep (by k_asm))) ?_; intro z9 hz9))
  (k_with "compareOp Eq ref ref" => (refine eq_ones (OneAt.up (by assumption) (Fr.keep (by k_asm))) (OneAt.up hB (Fr.keep (by k_asm))) (by units_room) ?_))
  (k_with "myiter" => (
     rename EnumL _ _ _ _ _ _ _ => eb'
     refine wpAny_pyIter_enum eb'.he ?_
     k_dflt (refine for_enum (nexts_list _ R items hR) rfl rfl rfl rfl eb'.he eb'.hit (by k_asm) eb'.ne eb'.e0 eb'.it0 eb'.eL eb'.itL 0 (Nat.zero_le _) (fun i m₁ => (∀ k, k < i → ds[k]? ≠ some c) ∧ ∃ o1 o2, m₁ = (fun y => if y = Str.ofString "j" then o1 else if y = Str.ofString "i" then o2 else if y = Str.ofString "a" then some (.ref R) else if y = Str.ofString "b" then some (.ref V) else none)) ?t2 ?t3 ?t4 (by passes_own))
     (case t2 => exact ⟨fun k hk => absurd hk (Nat.not_lt_zero _), none, none, map_index⟩)
     (case' t3 => (rintro i x tk tk' tk₂ m₁ h₁ oe oit hin hge hle hx ⟨hno, o1, o2, rfl⟩ F₁ N₁; obtain ⟨r9, d9, rfl, hr9, hd9⟩ := hrow.2 _ _ hx))
     (case' t4 => (rintro m₁ h₁ tk₁ ⟨hno, o1, o2, rfl⟩ F₁))
     ))
  k_steps
  · have h9 : j < ds.length := (List.getElem?_eq_some_iff.mp hj).1
    rw [← hrow.1] at h9
    exact hno j h9 hj
  · rename (z9 = true) => ht9
    have e9 := hz9 ht9
    subst e9
    have := idx_eq hd9 hno hj hbef
    subst this
    dsimp only
    unfold TurnEnd
    dsimp only
    refine Fin.intro (by assumption) ?_
    exact ⟨_, rfl⟩
  · rename (d9 = c) => e9
    subst e9
    have := idx_eq hd9 hno hj hbef
    subst this
    dsimp only
    unfold TurnEnd
    dsimp only
    refine Fin.intro (by assumption) ?_
    exact ⟨_, rfl⟩
  · rename (¬ d9 = c) => hn9
    exact TurnEnd.next (by assumption) (by assumption) ⟨idxL_not hd9 hno hn9, _, _, map_index2⟩
theorem e_indexL {R V : Addr} {ds : List Int} {c : Int} (hall : ∀ k : Nat, ds[k]? ≠ some c) :
    ConE 1 77 [.ref R, .ref V] (fun s => RowAt s.heap R ds ∧ OneAt s.heap V c) "ValueError" := by
  intro prog w mean mg mb dp un gd outer A₀ base s Q E B X T hd hu hp ret
  k_dflt (refine' conE_enter (binds := [(Str.ofString "a", .ref R), (Str.ofString "b", .ref V)]) B X T (by omega) ret ?o ?c ?b ?l ?_ ?c2 ?c3 ?c4 ?c5; (case o => k_is); (case c => k_is); (case b => exact BindsTo.of_eq rfl); (case l => exact locs rfl); (case c2 => exact rfl); (case c3 => exact rfl); (case c4 => exact rfl); (case c5 => decide); k_whole)
  clear ret B A₀ Q E
  intro L' h' F' N' B'
  (try dsimp only)
  generalize htk0 : s.toks + List.length _ = tk0
  simp only [List.length_cons, List.length_nil] at htk0
  (try k_fold)
  obtain ⟨⟨items, hR, hrow⟩, hB⟩ := hp
  (k_with_none)
  (k_with "exec For Tuple Call cons cons" => (k_dflt (refine wpAny_For ?_)))
  (k_with "call type:enumerate" => (refine enumerate_listK hR (by k_asm) (by k_asm) ?_; intro h' e' it' F' N' eb'))
  (k_with "compareOp Is ref ref" => (refine is_ones (OneAt.up (by assumption) (Fr.keep (by k_asm))) (OneAt.up hB (Fr.keep (by k_asm))) ?_; intro z9 hz9))
  (k_with "compareOp Eq ref ref" => (refine eq_ones (OneAt.up (by assumption) (Fr.keep (by k_asm))) (OneAt.up hB (Fr.keep (by k_asm))) (by units_room) ?_))
  (k_with "myiter" => (
     rename EnumL _ _ _ _ _ _ _ => eb'
     refine wpAny_pyIter_enum eb'.he ?_
     k_dflt (refine for_enum (nexts_list _ R items hR) rfl rfl rfl rfl eb'.he eb'.hit (by k_asm) eb'.ne eb'.e0 eb'.it0 eb'.eL eb'.itL 0 (Nat.zero_le _) (fun i m₁ => (∀ k, k < i → ds[k]? ≠ some c) ∧ ∃ o1 o2, m₁ = (fun y => if y = Str.ofString "j" then o1 else if y = Str.ofString "i" then o2 else if y = Str.ofString "a" then some (.ref R) else if y = Str.ofString "b" then some (.ref V) else none)) ?t2 ?t3 ?t4 (by passes_own))
     (case t2 => exact ⟨fun k hk => absurd hk (Nat.not_lt_zero _), none, none, map_index⟩)
     (case' t3 => (rintro i x tk tk' tk₂ m₁ h₁ oe oit hin hge hle hx ⟨hno, o1, o2, rfl⟩ F₁ N₁; obtain ⟨r9, d9, rfl, hr9, hd9⟩ := hrow.2 _ _ hx))
     (case' t4 => (rintro m₁ h₁ tk₁ ⟨hno, o1, o2, rfl⟩ F₁))
     ))
  k_steps
  · rename (z9 = true) => ht9
    have e9 := hz9 ht9
    subst e9
    exact absurd hd9 (hall i)
  · rename (d9 = c) => e9
    subst e9
    exact absurd hd9 (hall i)
  · rename (¬ d9 = c) => hn9
    exact TurnEnd.next (by assumption) (by assumption) ⟨idxL_not hd9 hno hn9, _, _, map_index2⟩
theorem s_whereL {R V : Addr} {ds : List Int} {c : Int} :
    ConS 2 106 [.ref R, .ref V] (fun s => RowAt s.heap R ds ∧ OneAt s.heap V c) (fun v => ∃ t', v = .int (placeI ds c 0) t') := by
  intro prog w mean mg mb dp un gd outer A₀ base s Q E B XB TB D hd hu hp ret
  k_dflt (refine' conS_enter (binds := [(Str.ofString "things", .ref R), (Str.ofString "one", .ref V)]) B XB TB D (by omega) ret ?o ?c ?b ?l ?_ ?c2 ?c3 ?c4 ?c5; (case o => k_is); (case c => k_is); (case b => exact BindsTo.of_eq rfl); (case l => exact locs rfl); (case c2 => exact rfl); (case c3 => exact rfl); (case c4 => exact rfl); (case c5 => decide); k_whole)
  clear ret B A₀ Q E
  intro L' h' F' N' B' X' T' T0
  (try dsimp only)
  generalize htk0 : s.toks + List.length _ = tk0
  simp only [List.length_cons, List.length_nil] at htk0
  (try k_fold)
  rcases place_cases ds c with hall | ⟨j, hj, hbef⟩
  · (k_with_none)
    (k_with "call ref" => (refine ConE.use (e_indexL hall) (by k_asm) (by k_asm) (by k_asm) (by k_asm) rfl (by ktr_room) (by ktr_units) ⟨hp.1.up (Fr.keep (by k_asm)), hp.2.up (Fr.keep (by k_asm))⟩ ?_; intro e' h' tk' R' U'))
    k_steps
    all_goals (refine FinS.intro (by assumption) (by assumption) ?_)
    exact ⟨_, by rw [placeI_none hall]⟩
  · (k_with_none)
    (k_with "call ref" => (refine Con.use (c_indexL hj hbef) (by k_asm) (by k_asm) (by k_asm) (by k_asm) (by k_asm) rfl (by ktr_room) (by ktr_units) ⟨hp.1.up (Fr.keep (by k_asm)), hp.2.up (Fr.keep (by k_asm))⟩ ?_; rintro v' h' tk' ⟨t', rfl⟩ F' N'))
    k_steps
    all_goals (refine FinS.intro (by assumption) (by assumption) ?_)
    exact ⟨_, by rw [placeI_some hj hbef, Int.zero_add]⟩
theorem cntL_at {ds : List Int} {c d : Int} {i : Nat} (hd : ds[i]? = some d) (e : d = c) : ((ds.take (i + 1)).count c : Int) = ((ds.take i).count c : Int) + 1 := by
  subst e
  rw [List.take_succ, hd, List.count_append]; simp
theorem cntL_not {ds : List Int} {c d : Int} {i : Nat} (hd : ds[i]? = some d) (e : ¬ d = c) : ((ds.take (i + 1)).count c : Int) = ((ds.take i).count c : Int) := by
  rw [List.take_succ, hd, List.count_append]; simp [e]
theorem c_countL {R V : Addr} {ds : List Int} {c : Int} :
    Con 1 63 [.ref R, .ref V] (fun s => RowAt s.heap R ds ∧ OneAt s.heap V c) (fun v => ∃ t', v = .int (ds.count c : Int) t') := by
  intro prog w mean mg mb dp un gd outer A₀ base s Q E B X T hd hu hp ret
  k_dflt (refine' con_enter (binds := [(Str.ofString "a", .ref R), (Str.ofString "b", .ref V)]) B X T (by omega) ret ?o ?c ?b ?l ?_ ?c2 ?c3 ?c4 ?c5; (case o => k_is); (case c => k_is); (case b => exact BindsTo.of_eq rfl); (case l => exact locs rfl); (case c2 => exact rfl); (case c3 => exact rfl); (case c4 => exact rfl); (case c5 => decide); k_whole)
  clear ret B A₀ Q E
  intro L' h' F' N' B'
  (try dsimp only)
  generalize htk0 : s.toks + List.length _ = tk0
  simp only [List.length_cons, List.length_nil] at htk0
  (try k_fold)
  obtain ⟨⟨items, hR, hrow⟩, hB⟩ := hp
  (k_with_none)
  (k_with "myfor" => (k_dflt (refine wpAny_For ?_)))
  (k_with "compareOp Is ref ref" => (refine is_ones (OneAt.up (by assumption) (Fr.keep (by k_asm))) (OneAt.up hB (Fr.keep (by k_asm))) ?_; intro z9 hz9))
  (k_with "compareOp Eq ref ref" => (refine eq_ones (OneAt.up (by assumption) (Fr.keep (by k_asm))) (OneAt.up hB (Fr.keep (by k_asm))) (by units_room) ?_))
  (k_with "myiter" => (
     refine iter_listK hR (by k_asm) (by k_asm) ?_
     intro h' it' F' N' ib'
     k_dflt (refine for_each (steps_list rfl _ R items hR) rfl rfl ib'.hit (by k_asm) News.nil ib'.it0 ib'.itL (fun _ h => nomatch h) 0 (Nat.zero_le _) (fun i m₁ => ∃ o1 u1, m₁ = (fun y => if y = Str.ofString "count" then some (.int ((ds.take i).count c : Int) u1) else if y = Str.ofString "i" then o1 else if y = Str.ofString "a" then some (.ref R) else if y = Str.ofString "b" then some (.ref V) else none)) ?t2 ?t3 ?t4 (by passes_own))
     (case t2 => exact ⟨none, _, map_cnt⟩)
     (case' t3 => (rintro i x tk tk₂ m₁ h₁ oit hin hge hx ⟨o1, u1, rfl⟩ F₁ N₁; obtain ⟨r9, d9, rfl, hr9, hd9⟩ := hrow.2 _ _ hx))
     (case' t4 => (rintro m₁ h₁ tk₁ ⟨o1, u1, rfl⟩ F₁ N₁))
     ))
  k_steps
  · refine Fin.intro (by assumption) ⟨u1, ?_⟩
    rw [hrow.1, List.take_length]
  · rename (z9 = true) => ht9
    refine TurnEnd.next (by assumption) (by assumption) ⟨?ta, ?tb, ?tc⟩
    case tc => (rw [cntL_at hd9 (hz9 ht9)]; exact map_cnt3)
  · rename (d9 = c) => e9
    refine TurnEnd.next (by assumption) (by assumption) ⟨?ua, ?ub, ?uc⟩
    case uc => (rw [cntL_at hd9 e9]; exact map_cnt3)
  · rename (¬ d9 = c) => hn9
    refine TurnEnd.next (by assumption) (by assumption) ⟨?va, ?vb, ?vc⟩
    case vc => (rw [cntL_not hd9 hn9]; exact map_cnt2)
theorem fillT10 : Challenge.rw_nq0031_01 = Challenge.rw_nq0031_01 ∧ Mine.hd.heap_39 = Mine.hd.heap_39 := by k_with_none; k_fill; exact ⟨rfl, rfl⟩
theorem s_hintI0 {x : Int} {t : Tok} : ConS 1 85 [.int x t] (fun _ => True) (fun v => ∃ u, v = .int 0 u) := by
  intro prog w mean mg mb dp un gd outer A₀ base s Q E B XB TB D hd hu hp ret
  k_dflt (refine' conS_enter (binds := [(Str.ofString "obj", .int x t), (Str.ofString "default", .int 0 264)]) B XB TB D (by omega) ret ?o ?c ?b ?l ?_ ?c2 ?c3 ?c4 ?c5; (case o => k_is); (case c => k_is); (case b => exact kp_binds (XB.keeps B.stays) (fun _ => rfl)); (case l => exact locs rfl); (case c2 => exact rfl); (case c3 => exact rfl); (case c4 => exact rfl); (case c5 => decide); k_whole)
  clear ret B A₀ Q E
  intro L' h' F' N' B' X' T' T0
  (try dsimp only)
  generalize htk0 : s.toks + List.length _ = tk0
  simp only [List.length_cons, List.length_nil] at htk0
  (try k_fold)
  k_steps
  all_goals (refine FinS.intro (by assumption) (by assumption) ?_)
  all_goals exact ⟨_, rfl⟩
theorem s_lengths {b : Array UInt8} {t tm ts tb : Tok} {ks : List Int} {m n : Int} (hb : KBw.bInts b = ks) (h1 : ks.length ≤ 100) :
    ConS 3 127 [.bytes b t, .int m tm, .int (ks.length : Int) ts, .int n tb] (fun _ => True) (fun v => v = .bool true) := by
  intro prog w mean mg mb dp un gd outer A₀ base s Q E B XB TB D hd hu hp ret
  k_dflt (refine' conS_enter (binds := [(Str.ofString "word", .bytes b t), (Str.ofString "m", .int m tm), (Str.ofString "size", .int (ks.length : Int) ts), (Str.ofString "beside", .int n tb)]) B XB TB D (by omega) ret ?o ?c ?b ?l ?_ ?c2 ?c3 ?c4 ?c5; (case o => k_is); (case c => k_is); (case b => exact BindsTo.of_eq rfl); (case l => exact locs rfl); (case c2 => exact rfl); (case c3 => exact rfl); (case c4 => exact rfl); (case c5 => decide); k_whole)
  clear ret B A₀ Q E
  intro L' h' F' N' B' X' T' T0
  (try dsimp only)
  generalize htk0 : s.toks + List.length _ = tk0
  simp only [List.length_cons, List.length_nil] at htk0
  (try k_fold)
  (k_with_none)
  (k_with "call ref" => (first
    | (refine Con.use (c_hint0 hb h1) (by k_asm) (by k_asm) (by k_asm) (by k_asm) (by k_asm) rfl (by ktr_room) (by ktr_units) trivial ?_; rintro v' h' tk' ⟨t', rfl⟩ F' N')
    | (refine Con.use (c_hint hb h1) (by k_asm) (by k_asm) (by k_asm) (by k_asm) (by k_asm) rfl (by ktr_room) (by ktr_units) trivial ?_; rintro v' h' tk' ⟨t', rfl⟩ F' N')
    | (refine ConS.use (s_unfit hb h1) (by k_asm) (by k_asm) (by k_asm) (by assumption) (by assumption) (by assumption) (by assumption) rfl (by ktr_room) (by ktr_units) trivial ?_; rintro v' h' tk' g' rfl T0' F' N' B' X' T' D')
    | (refine ConS.use s_hintI0 (by k_asm) (by k_asm) (by k_asm) (by assumption) (by assumption) (by assumption) (by assumption) rfl (by ktr_room) (by ktr_units) trivial ?_; rintro v' h' tk' g' ⟨t', rfl⟩ T0' F' N' B' X' T' D')
    | (refine ConS.use s_hintI (by k_asm) (by k_asm) (by k_asm) (by assumption) (by assumption) (by assumption) (by assumption) rfl (by ktr_room) (by ktr_units) trivial ?_; rintro v' h' tk' g' rfl T0' F' N' B' X' T' D')))
  k_steps
  · refine FinS.intro (by assumption) (by assumption) rfl
  · rename (¬ _ = List.flatten _) => hn9
    exact absurd rfl hn9
theorem fillMade : Challenge.rw_nq0031_01 = Challenge.rw_nq0031_01 ∧ Mine.hd.heap_39 = Mine.hd.heap_39 := by k_with_none; k_fill; exact ⟨rfl, rfl⟩
theorem c_made {b : Array UInt8} {t tn : Tok} {ks : List Int} {x : Int} (hb : KBw.bInts b = ks) (hx : x.natAbs < 2 ^ 60) (he : ks = wN x.natAbs) : Con 2 139 [.bytes b t, .int x tn] (fun _ => True) (fun v => v = .bool true) := by
  intro prog w mean mg mb dp un gd outer A₀ base s Q E B X T hd hu hp ret
  k_dflt (refine' con_enter (binds := [(Str.ofString "told", .bytes b t), (Str.ofString "number", .int x tn)]) B X T (by omega) ret ?o ?c ?b ?l ?_ ?c2 ?c3 ?c4 ?c5; (case o => k_is); (case c => k_is); (case b => exact BindsTo.of_eq rfl); (case l => exact locs rfl); (case c2 => exact rfl); (case c3 => exact rfl); (case c4 => exact rfl); (case c5 => decide); k_whole)
  clear ret B A₀ Q E
  intro L' h' F' N' B'
  (try dsimp only)
  generalize htk0 : s.toks + List.length _ = tk0
  simp only [List.length_cons, List.length_nil] at htk0
  (try k_fold)
  (k_with_none)
  (k_with "call ref" => (refine Con.use (c_int2ap hx) (by k_asm) (by k_asm) (by k_asm) (by k_asm) (by k_asm) rfl (by ktr_room) (by ktr_units) trivial ?_; rintro v' h' tk' ⟨b', t', rfl, hb'⟩ F' N'))
  k_steps
  refine Fin.intro (by k_asm) ?_
  rw [eq_ints hb hb', he]
  simp
theorem fillT11 : Challenge.rw_nq0031_01 = Challenge.rw_nq0031_01 ∧ Mine.hd.heap_39 = Mine.hd.heap_39 := by k_with_none; k_fill; exact ⟨rfl, rfl⟩
/-- the highest place so far at which fs holds last, counted from above -/
def firstI (fs : List Int) (last n : Int) : Nat → Int
  | 0 => -1
  | i + 1 => if fs.getD i 0 = last then n - 1 - (i : Int) else firstI fs last n i
theorem first_hit {fs : List Int} {last n : Int} {i : Nat} (h : fs.getD (0 + (i : Int)).toNat 0 = last) : firstI fs last n (i + 1) = n - 1 - (0 + (i : Int)) := by
  rw [show (0 + (i : Int)).toNat = i by omega] at h
  rw [firstI, if_pos h]; omega
theorem first_miss {fs : List Int} {last n : Int} {i : Nat} (h : fs.getD (0 + (i : Int)).toNat 0 ≠ last) : firstI fs last n (i + 1) = firstI fs last n i := by
  rw [show (0 + (i : Int)).toNat = i by omega] at h
  rw [firstI, if_neg h]
theorem place_shift (l : List Int) (c n : Int) : placeI (l.map (fun x => 65 + x)) (65 + c) n = placeI l c n := by
  induction l generalizing n with
  | nil => rfl
  | cons x r ih =>
    rw [List.map_cons, placeI, placeI, ih]
    by_cases hx : x = c
    · subst hx; simp
    · rw [if_neg hx, if_neg (by omega)]
theorem place_first (fs : List Int) (c n : Int) : ∀ i : Nat, i ≤ fs.length → placeI (fs.take i).reverse c (n - i) = firstI fs c n i := by
  intro i
  induction i with
  | zero => intro _; rfl
  | succ i ih =>
    intro hi
    have i1 := ih (by omega)
    rw [List.take_succ_eq_append_getElem (by omega), List.reverse_append]
    simp only [List.reverse_cons, List.reverse_nil, List.nil_append, List.cons_append]
    rw [placeI, firstI, List.getD_eq_getElem?_getD, List.getElem?_eq_getElem (by omega), Option.getD_some]
    rw [show n - ((i + 1 : Nat) : Int) + 1 = n - i by omega, i1]
    by_cases hx : fs[i] = c
    · rw [if_pos hx, if_pos hx]; omega
    · rw [if_neg hx, if_neg hx]
theorem place_figs2 {ks : List Int} {m c : Int} (h : 0 ≤ m) (hks : ks = wN m.toNat) : placeI (figsI m ks.length).reverse c 0 = firstI (figsI m ks.length) c (ks.length : Int) ((ks.length : Int) - 0).toNat := by
  have hl := figsI_length m ks.length
  have hp := place_first (figsI m ks.length) c (ks.length : Int) ks.length (by omega)
  rw [List.take_of_length_le (by omega)] at hp
  rw [show ((ks.length : Int) - 0).toNat = ks.length by omega, ← hp]
  congr 1; omega
theorem place_figs1 {ks : List Int} {m c : Int} (h : 0 ≤ m) (hks : ks = wN m.toNat) : placeI ks (65 + c) 0 = firstI (figsI m ks.length) c (ks.length : Int) ((ks.length : Int) - 0).toNat := by
  rw [← place_figs2 h hks]
  have hr := figs_rev h hks
  generalize figsI m ks.length = fs at *
  subst hr
  exact place_shift _ _ _
theorem map_first {v0 : Option Value} {M : Str → Option Value} (h : M (Str.ofString "j") = none) : (fun y => if y = Str.ofString "first" then v0 else M y) = (fun y => if y = Str.ofString "first" then v0 else if y = Str.ofString "j" then none else M y) := by
  funext y
  by_cases h1 : y = Str.ofString "first"
  · simp [h1]
  by_cases h2 : y = Str.ofString "j"
  · subst h2; simp [h]
  simp [h1, h2]
theorem map_first2 {v0 o1 o2 : Option Value} {M : Str → Option Value} : (fun y => if y = Str.ofString "j" then o1 else (if y = Str.ofString "first" then v0 else if y = Str.ofString "j" then o2 else M y)) = (fun y => if y = Str.ofString "first" then v0 else if y = Str.ofString "j" then o1 else M y) := by
  funext y
  by_cases h1 : y = Str.ofString "first"
  · subst h1; rfl
  by_cases h2 : y = Str.ofString "j"
  · subst h2; rfl
  simp [h1, h2]
theorem map_first3 {v0 v1 o1 o2 : Option Value} {M : Str → Option Value} : (fun y => if y = Str.ofString "first" then v1 else if y = Str.ofString "j" then o1 else (if y = Str.ofString "first" then v0 else if y = Str.ofString "j" then o2 else M y)) = (fun y => if y = Str.ofString "first" then v1 else if y = Str.ofString "j" then o1 else M y) := by
  funext y
  by_cases h1 : y = Str.ofString "first"
  · subst h1; rfl
  by_cases h2 : y = Str.ofString "j"
  · subst h2; rfl
  simp [h1, h2]
theorem for_first {prog : Program} {w : World} {h₀ : Heap} {it : Addr} {A : Around} {E : Value → Shared → Prop} {s : Shared} {env : Env} {Q : Flow → Shared → Prop} {pv : Pos} {body : List Stmt} {M : Str → Option Value} {news : List (Addr × Obj)} {k : Nat} {t0 : Tok} (fs : List Int) (last n9 : Int)
    (hh : A.handled = none) (hxv : env.kindOf (Str.ofString "j") = some .local) (hp : (env.scope.kind == .class || (env.scope.kind == .module && env.locals != env.globals)) = false)
    (F : Fr h₀ env.locals s.heap (fun y => if y = Str.ofString "first" then some (.int (-1) t0) else M y)) (hMj : M (Str.ofString "j") = none) (N : News h₀ env.locals s.heap news) (ib : ItR h₀ env.locals news s.heap it 0 k)
    (turn : ∀ i tx tk₂ o1 u1 h₁ oit, i < k → Fr h₀ env.locals h₁ (fun y => if y = Str.ofString "j" then some (.int (0 + (i : Int)) tx) else (if y = Str.ofString "first" then some (.int (firstI fs last n9 i) u1) else if y = Str.ofString "j" then o1 else M y)) → News h₀ env.locals h₁ ((it, oit) :: news) →
      wpAny (model prog w) A (execs body env) (TurnEnd s h₀ env.locals ((it, oit) :: news) (fun m₁ => ∃ o1 u1, m₁ = (fun y => if y = Str.ofString "first" then some (.int (firstI fs last n9 (i + 1)) u1) else if y = Str.ofString "j" then o1 else M y)) Q) E { s with heap := h₁, toks := tk₂ })
    (fin : ∀ o1 u1 h₁ tk₁, Fr h₀ env.locals h₁ (fun y => if y = Str.ofString "first" then some (.int (firstI fs last n9 k) u1) else if y = Str.ofString "j" then o1 else M y) → News h₀ env.locals h₁ news → wpAny (model prog w) A (execs [] env) Q E { s with heap := h₁, toks := tk₁ })
    (hE : PassesOwn (model prog w) A env E) :
    codeAny (model prog w) A (.forLoop (.Name (Str.ofString "j") pv) (.ref it) body [] env) (fun r s' => match r with | .ok f => Q f s' | .error e => cameBackBy (model prog w) A env E e s') s := by
  refine for_each (steps_range hh it 0 k) hxv hp ib.hit F N ib.it0 ib.itL ib.nit 0 (Nat.zero_le _) (fun i m₁ => ∃ o1 u1, m₁ = (fun y => if y = Str.ofString "first" then some (.int (firstI fs last n9 i) u1) else if y = Str.ofString "j" then o1 else M y)) ⟨none, t0, map_first hMj⟩ ?_ ?_ hE
  · rintro i x tk tk₂ m₁ h₁ oit hin _ ⟨tx, rfl⟩ ⟨o1, u1, rfl⟩ F₁ N₁
    exact turn i tx tk₂ o1 u1 h₁ oit hin F₁ N₁
  · rintro m₁ h₁ tk₁ ⟨o1, u1, rfl⟩ F₁ N₁
    exact fin o1 u1 h₁ tk₁ F₁ N₁
theorem mem_swap {α : Type} {d : α} {rn news : List α} {p : α} (hp : p ∈ d :: (news ++ rn)) : p ∈ d :: (rn ++ news) := by
  simp only [List.mem_cons, List.mem_append] at hp ⊢
  rcases hp with h | h | h
  · exact .inl h
  · exact .inr (.inr h)
  · exact .inr (.inl h)
theorem news_swap {h₀ h : Heap} {L : Addr} {d : Addr × Obj} {rn news : List (Addr × Obj)} (N : News h₀ L h (d :: (rn ++ news))) : News h₀ L h (d :: (news ++ rn)) := fun p hp => N p (mem_swap hp)
theorem c_getitemA {b : Array UInt8} {t u : Tok} {ks : List Int} {i : Int} (hb : KBw.bInts b = ks) (h1 : ks.length ≤ 100) (hi : -(ks.length : Int) ≤ i) (hi2 : i < ks.length) : Con 1 70 [.bytes b t, .int i u] (fun _ => True) (fun v => ∃ t', v = .int (ks.getD (if i < 0 then i + ks.length else i).toNat 0) t') := by
  by_cases h0 : i < 0
  · simp only [h0, if_true]; exact c_getitemR hb h1 hi h0
  · simp only [h0, if_false]; exact c_getitem hb h1 (by omega) hi2
set_option maxHeartbeats 2000000 in
theorem s_letters {b : Array UInt8} {t tm ts tb : Tok} {ks : List Int} {m n : Int} (hb : KBw.bInts b = ks) (h1 : ks.length ≤ 4) (hm0 : 0 ≤ m) (hm1 : m ≤ 65535) (hn0 : 0 ≤ n) (hn1 : n ≤ 65535) (hks : ks = wN m.toNat) :
    ConS 4 132 [.bytes b t, .int m tm, .int (ks.length : Int) ts, .int n tb] (fun _ => True) (fun v => v = .bool true) := by
  intro prog w mean mg mb dp un gd outer A₀ base s Q E B XB TB D hd hu hp ret
  k_dflt (refine' conS_enterC (binds := [(Str.ofString "word", .bytes b t), (Str.ofString "m", .int m tm), (Str.ofString "size", .int (ks.length : Int) ts), (Str.ofString "beside", .int n tb)]) B XB TB (by omega) ret ?o ?c ?b ?l ?dd ?_ ?c2 ?c3 ?c4; (case o => k_is); (case c => k_is); (case b => exact BindsTo.of_eq rfl); (case l => exact rfl); (case dd => decide +kernel); (case c2 => exact rfl); (case c3 => exact rfl); (case c4 => exact rfl); k_whole)
  clear ret B A₀ Q E
  intro L' h' tk0 cells' F' N' Y' B' X' T' T0
  k_cells Y'
  (try simp only [List.cons_append, List.nil_append] at N')
  (try dsimp only)
  (try k_fold)
  have hpos : decide (0 < ks.length) = decide (0 < m) := by
    rw [decide_eq_decide, hks]; exact wN_pos_iff hm0
  (k_with_none)
  (k_with "call type:range" => ((with_reducible show wpAny _ _ (call (Value.type "range") [Value.int (-_) _, Value.int _ _]) _ _ _); refine range2_K (by k_asm) (by k_asm) ?_; intro h' r' v' k' F' N' l1; (try k_lt l1)))
  (k_with "CompSrc" => (first
    | ((with_reducible show LCg.CompSrc _ _ _ _ _ _ _ _ _ _ _ _ (Value.ref _) _); k_dflt (refine LCg.CompSrc.range (by rfl) (by k_asm) (by k_asm) (News.get (by k_asm) (by k_mem)) (small_one (by omega) (by omega) (by omega) (by omega)) (rangeSize_nat _ _) (by rw [PySem.sizeLine_eq]; omega) ?_); intro g'; (refine' kcf_range _ (fun k' t' I' oI' C' oC' D' m' ys' h' tk' E' hlo' hhi' hC' hx' F' N' off' ne' hMark' => ?_) ?_); (all_goals (try (simp only [LCg.Off3, and_true] at off'))); kcf_last)))
  (k_with "mycomp" => (k_dflt ((with_reducible show LCg.CompSrc _ _ _ _ _ _ _ (Expr.List _ _) _ _ _ _ _ _); (refine' LCg.CompSrc.ledger ?hh ?f9 ?n9 ?hm ?sz ?_; (case hh => exact rfl); (case f9 => k_asm); (case n9 => k_asm); (case hm => k_mem); (case sz => (rw [PySem.sizeLine_eq]; simp only [List.size_toArray]; (rename IntsAre _ _ => hI9); (have hL9 := IntsAre.length hI9); simp only [List.length_reverse, List.length_map, rangeKs_length] at hL9; omega)); k_whole); intro g'; (refine' comp_rows ?i9 (fun _ => rfl) (fun _ => rfl) (by decide) ?s9 ?_; (case i9 => assumption); (case s9 => exact .inr ⟨_, by k_mem, rfl, _, rfl⟩); k_whole); intro ys9 rn9 hrow9; unfold LCg.FinA; intro D9 h9 tk9 F9 N9 off9; have N9' := news_swap N9; clear N9; simp only [List.cons_append, List.nil_append] at N9')))
  (k_with "subscriptTail Name BinOp ref int" => ((k_dflt (refine' item_intsM ?n ?m ?c ?d ?i ?e0 ?e2 ?e1 ?_; (case n => k_asm); (case m => k_mem); (case c => exact rfl); (case d => exact rfl); (case i => assumption); (case e0 => first | exact pospl (by assumption) (by assumption) | omega); (case e2 => omega); (case e1 => (simp only [List.length_map, rangeKs_length]; omega)); k_whole)); intro t9))
  (k_with "subscriptTail Name Name ref int" => ((k_dflt (refine' item_ints ?n ?m ?c ?d ?i ?e0 ?e1 ?e2 ?_; (case n => k_asm); (case m => k_mem); (case c => exact rfl); (case d => exact rfl); (case i => assumption); (case e0 => omega); (case e1 => (simp only [List.length_map, rangeKs_length]; omega)); (case e2 => omega); k_whole)); intro t9))
  (k_with "exec For Name Call cons nil" => (k_dflt (refine wpAny_For ?_)))
  (k_with "myiter" => (
     k_dflt (refine iter_rangeK (by k_asm) (by k_asm) (by assumption) (small_one (by omega) (by omega) (by omega) (by omega)) ?_)
     intro h' it' F' N' ib'
     k_dflt (refine' for_first (List.map (fun k' : Int => (m.fdiv (16 ^ k'.toNat)).fmod 16) (rangeKs 0 ((ks.length : Int) - 0).toNat)) (n.fmod 16) (ks.length : Int) rfl rfl rfl ?f9 ?mj ?n9 ib' ?t3 ?t4 ?p9; (case f9 => k_asm); (case n9 => k_asm); (case mj => exact rfl); (case p9 => passes_own); k_whole)
     (case' t3 => (intro i tx tk₂ o1 u1 h₁ oit hin F₁ N₁))
     (case' t4 => (intro o1 u1 h₁ tk₁ F₁ N₁))
     ))
  (k_with "mylc" => (k_dflt ((with_reducible show wpAny _ _ (eval (Expr.ListComp (Expr.Name _ _) [⟨_, _, [Expr.Compare _ _ _ _], _⟩] _ _) _) _ _ _); refine LCt.ListComp_T (F₀ := by k_asm) (by with_unfolding_all rfl) (by decide) (by rfl) (by decide) (by rfl) ?_)))
  (k_with "mypow" => (refine pow_int_small (by assumption) (mila (by assumption) (by assumption)) (by decide) ?_))
  (k_with "mylen" => (k_dflt ((refine' len_led ?n9 ?hm ?oc ?od ?i9 ?l9 ?_; (case n9 => k_asm); (case hm => k_mem); (case oc => exact rfl); (case od => exact rfl); (case i9 => assumption); (case l9 => exact Nat.le_trans (List.length_filter_le _ _) (by simp only [List.length_map, rangeKs_length]; omega)); k_whole))))
  (k_with "mycompT" => (k_dflt ((refine' filt_src ?hh ?f9 ?n9 ?hm ?oc ?od ?i9 ?l9 (fun _ => rfl) (fun _ => rfl) (by decide) ?hz9 ?hm9 ?ho9 (fun _ => rfl) (by decide) ?_; (case hh => exact rfl); (case f9 => k_asm); (case n9 => k_asm); (case hm => k_mem); (case oc => exact rfl); (case od => exact rfl); (case i9 => assumption); (case l9 => (simp only [List.length_map, rangeKs_length]; omega)); (case hz9 => exact rfl); (case hm9 => k_mem); (case ho9 => assumption); k_whole); intro g' ys9 hy9; unfold LCg.FinE; intro D9 h9 tk9 F9 N9 off9)))
  (k_with "call ref" => (first
    | (refine ConS.use (s_where hb (by omega)) (by k_asm) (by k_asm) (by k_asm) (by assumption) (by assumption) (by assumption) (by assumption) rfl (by ktr_room) (by ktr_units) (by constructor <;> ((try dsimp only); omega)) ?_; rintro v' h' tk' g' ⟨t', rfl⟩ T0' F' N' B' X' T' D')
    | (refine Con.use (c_count hb (by omega)) (by k_asm) (by k_asm) (by k_asm) (by k_asm) (by k_asm) rfl (by ktr_room) (by ktr_units) (by constructor <;> ((try dsimp only); omega)) ?_; rintro v' h' tk' ⟨t', rfl⟩ F' N')
    | (refine ConS.use s_whereL (by k_asm) (by k_asm) (by k_asm) (by assumption) (by assumption) (by assumption) (by assumption) rfl (by ktr_room) (by ktr_units) ⟨RowN.at hrow9 (by k_asm) (by intro p hp; repeat (first | exact hp | apply List.mem_cons_of_mem)) (by k_mem), ⟨_, _, News.get (by k_asm) (by k_mem), rfl, _, rfl⟩⟩ ?_; rintro v' h' tk' g' ⟨t', rfl⟩ T0' F' N' B' X' T' D')
    | (refine Con.use c_countL (by k_asm) (by k_asm) (by k_asm) (by k_asm) (by k_asm) rfl (by ktr_room) (by ktr_units) ⟨RowN.at hrow9 (by k_asm) (by intro p hp; repeat (first | exact hp | apply List.mem_cons_of_mem)) (by k_mem), ⟨_, _, News.get (by k_asm) (by k_mem), rfl, _, rfl⟩⟩ ?_; rintro v' h' tk' ⟨t', rfl⟩ F' N')
    | (refine Con.use (c_getitemA hb (by omega) (by first | assumption | omega) (by first | exact ltpl (by assumption) | omega)) (by k_asm) (by k_asm) (by k_asm) (by k_asm) (by k_asm) rfl (by ktr_room) (by ktr_units) trivial ?_; rintro v' h' tk' ⟨t', rfl⟩ F' N')
    | (refine ConS.use (s_beyond hb (by omega) (by omega) (by omega) (by omega)) (by k_asm) (by k_asm) (by k_asm) (by assumption) (by assumption) (by assumption) (by assumption) rfl (by ktr_room) (by ktr_units) trivial ?_; rintro v' h' tk' g' rfl T0' F' N' B' X' T' D')
    | (refine Con.use (c_truth hb (by omega)) (by k_asm) (by k_asm) (by k_asm) (by k_asm) (by k_asm) rfl (by ktr_room) (by ktr_units) trivial ?_; rintro v' h' tk' rfl F' N')
    | (refine ConS.use (s_lengths hb (by omega)) (by k_asm) (by k_asm) (by k_asm) (by assumption) (by assumption) (by assumption) (by assumption) rfl (by ktr_room) (by ktr_units) trivial ?_; rintro v' h' tk' g' rfl T0' F' N' B' X' T' D')))
  k_steps
  · exfalso
    have hx9 : (decide (0 < ks.length) != decide (0 < m)) = true := by assumption
    rw [hpos] at hx9
    simp at hx9
  · refine FinS.intro (by assumption) (by assumption) ?_
    have hc9 := count_figs (c := n.fmod 16) hm0 hks
    have e9 : ∀ a b c : Nat, a = b → b = c → Value.bool (decide ([(a : Int), (b : Int)] = [(c : Int), (c : Int)])) = Value.bool true := by
      intro a b c h1 h2; subst h1; subst h2; simp
    exact e9 _ _ _ hc9.1 hc9.2
  · rename (¬ [placeI _ _ _, _] = _) => hx9
    exact absurd (by rw [place_figs1 hm0 hks, place_figs2 hm0 hks]) hx9
  · rename (List.getD _ _ _ = _) => he9
    refine TurnEnd.next (by assumption) (by assumption) ⟨?ta, ?tb, ?tc⟩
    case tc => (rw [first_hit he9]; exact map_first3)
  · rename (List.getD _ _ _ ≠ _) => he9
    refine TurnEnd.next (by assumption) (by assumption) ⟨?ua, ?ub, ?uc⟩
    case uc => (rw [first_miss he9]; exact map_first2)
  · rename (¬ List.map _ _ = _) => hx9
    exact absurd (letters_list hm0 hks) hx9
theorem fillT12 : Challenge.rw_nq0031_01 = Challenge.rw_nq0031_01 ∧ Mine.hd.heap_39 = Mine.hd.heap_39 := by k_with_none; k_fill; exact ⟨rfl, rfl⟩
theorem for_times {prog : Program} {w : World} {h₀ : Heap} {it : Addr} {A : Around} {E : Value → Shared → Prop} {s : Shared} {env : Env} {Q : Flow → Shared → Prop} {pv : Pos} {body : List Stmt} {M : Str → Option Value} {news : List (Addr × Obj)} {a : Int} {k : Nat}
    (hh : A.handled = none) (hxv : env.kindOf (Str.ofString "times") = some .local) (hp : (env.scope.kind == .class || (env.scope.kind == .module && env.locals != env.globals)) = false)
    (F : Fr h₀ env.locals s.heap M) (hM : M (Str.ofString "times") = none) (N : News h₀ env.locals s.heap news) (hit : IsRangeIter s.heap it (a + ((0 : Nat) : Int) * 1) ((k : Int) - ((0 : Nat) : Int)) 1) (it0 : h₀.get? it = none) (itL : it ≠ env.locals) (nit : ∀ p ∈ news, p.1 ≠ it)
    (turn : ∀ i tx tk₂ h₁ oit z, i < k → z = a + (i : Int) → Fr h₀ env.locals h₁ (fun y => if y = Str.ofString "times" then some (.int z tx) else M y) → News h₀ env.locals h₁ ((it, oit) :: news) →
      wpAny (model prog w) A (execs body env) (TurnEnd s h₀ env.locals ((it, oit) :: news) (fun m₁ => ∃ o1, m₁ = (fun y => if y = Str.ofString "times" then o1 else M y)) Q) E { s with heap := h₁, toks := tk₂ })
    (fin : ∀ o1 h₁ tk₁, Fr h₀ env.locals h₁ (fun y => if y = Str.ofString "times" then o1 else M y) → News h₀ env.locals h₁ news → wpAny (model prog w) A (execs [] env) Q E { s with heap := h₁, toks := tk₁ })
    (hE : PassesOwn (model prog w) A env E) :
    codeAny (model prog w) A (.forLoop (.Name (Str.ofString "times") pv) (.ref it) body [] env) (fun r s' => match r with | .ok f => Q f s' | .error e => cameBackBy (model prog w) A env E e s') s := by
  refine for_each (steps_range hh it a k) hxv hp hit F N it0 itL nit 0 (Nat.zero_le _) (fun _ m₁ => ∃ o1, m₁ = (fun y => if y = Str.ofString "times" then o1 else M y)) ⟨none, ?_⟩ ?_ ?_ hE
  · funext y
    by_cases h1 : y = Str.ofString "times"
    · subst h1; simp [hM]
    · simp [h1]
  · rintro i x tk tk₂ m₁ h₁ oit hin _ ⟨tx, rfl⟩ ⟨o1, rfl⟩ F₁ N₁
    refine turn i tx tk₂ h₁ oit _ hin rfl ?_ N₁
    have e : (fun y => if y = Str.ofString "times" then some (Value.int (a + (i : Int)) tx) else (fun y => if y = Str.ofString "times" then o1 else M y) y) = (fun y => if y = Str.ofString "times" then some (Value.int (a + (i : Int)) tx) else M y) := by
      funext y
      by_cases h1 : y = Str.ofString "times"
      · simp [h1]
      · simp [h1]
    rw [← e]; exact F₁
  · rintro m₁ h₁ tk₁ ⟨o1, rfl⟩ F₁ N₁
    exact fin o1 h₁ tk₁ F₁ N₁
theorem made_cast (a c k : Nat) : ((a : Int) * 16 ^ ((k : Int)).toNat + (c : Int)) = ((a * 16 ^ k + c : Nat) : Int) := by
  simp
theorem add_small {a c k : Nat} (ha : a ≤ 65535) (hc : c ≤ 65535) (hk : k ≤ 4) : a * 16 ^ k + c < 2 ^ 60 := by
  have h1 : 16 ^ k ≤ 16 ^ 4 := Nat.pow_le_pow_right (by decide) hk
  have h2 : a * 16 ^ k ≤ 65535 * 16 ^ 4 := Nat.mul_le_mul ha h1
  omega
theorem c_madeAdd {b : Array UInt8} {t tn : Tok} {a c : Nat} (hb : KBw.bInts b = wN a ++ wN c) (ha : a ≤ 65535) (hc : c ≤ 65535) (hl : (wN c).length ≤ 4) :
    Con 2 139 [.bytes b t, .int ((a : Int) * 16 ^ (((wN c).length : Int)).toNat + (c : Int)) tn] (fun _ => True) (fun v => v = .bool true) := by
  rw [made_cast]
  refine c_made hb ?_ ?_
  · rw [Int.natAbs_natCast]; exact add_small ha hc hl
  · rw [Int.natAbs_natCast, wN_append]
theorem ones_cast (s n : Nat) : (List.map (fun k' : Int => (16 : Int) ^ ((s : Int) * k').toNat) (rangeKs 0 n)).sum = ((onesN s n : Nat) : Int) := by
  induction n with
  | zero => rfl
  | succ n ih =>
    have e : rangeKs 0 (n + 1) = rangeKs 0 n ++ [(n : Int)] := by simp [rangeKs, List.range_succ]
    rw [e, List.map_append, List.sum_append, ih, onesN]
    have e2 : (((s : Int) * (n : Int))).toNat = s * n := by
      rw [← Int.natCast_mul, Int.toNat_natCast]
    simp [e2]
theorem c_madeMul {b : Array UInt8} {t tn : Tok} {a : Nat} {z : Int} (hb : KBw.bInts b = (List.replicate z.toNat (wN a)).flatten) (hl : (wN a).length ≤ 4) (hz : z ≤ 3) :
    Con 2 139 [.bytes b t, .int ((a : Int) * (List.map (fun k' : Int => (16 : Int) ^ (((wN a).length : Int) * k').toNat) (rangeKs 0 (z - 0).toNat)).sum) tn] (fun _ => True) (fun v => v = .bool true) := by
  rw [ones_cast, Int.sub_zero, ← Int.natCast_mul]
  refine c_made hb ?_ ?_
  · rw [Int.natAbs_natCast]; exact ones_lt hl (by omega)
  · rw [Int.natAbs_natCast, wN_rep]
theorem four_bools {a b c d : Bool} : ∀ (i : Nat) v, (#[Value.bool a, .bool b, .bool c, .bool d] : Array Value)[i]? = some v → ∃ b, v = .bool b := by
  intro i v h
  match i, h with
  | 0, h => exact ⟨_, (by simpa using h.symm)⟩
  | 1, h => exact ⟨_, (by simpa using h.symm)⟩
  | 2, h => exact ⟨_, (by simpa using h.symm)⟩
  | 3, h => exact ⟨_, (by simpa using h.symm)⟩
  | n + 4, h => simp at h
theorem c_sizeN {k : Nat} {t : Tok} (h : k ≤ 65535) : Con 1 99 [.int (k : Int) t] (fun _ => True) (fun v => ∃ t', v = .int ((wN k).length : Int) t') :=
  c_size (x := (k : Int)) (by omega) (by omega)
theorem s_lettersN {b : Array UInt8} {t tm ts tb : Tok} {k n : Nat} (hb : KBw.bInts b = wN k) (h1 : (wN k).length ≤ 4) (hk : k ≤ 65535) (hn : n ≤ 65535) :
    ConS 4 132 [.bytes b t, .int (k : Int) tm, .int ((wN k).length : Int) ts, .int (n : Int) tb] (fun _ => True) (fun v => v = .bool true) :=
  s_letters hb h1 (by omega) (by omega) (by omega) (by omega) rfl
set_option maxHeartbeats 8000000 in
theorem s_pair {x y : Int} {tx ty : Tok} (hx0 : -65535 ≤ x) (hx1 : x ≤ 65535) (hy0 : -65535 ≤ y) (hy1 : y ≤ 65535) :
    ConS 5 144 [.int x tx, .int y ty] (fun _ => True) (fun v => v = .bool true) := by
  intro prog w mean mg mb dp un gd outer A₀ base s Q E B XB TB D hd hu hp ret
  k_dflt (refine' conS_enterC (binds := [(Str.ofString "x", .int x tx), (Str.ofString "y", .int y ty)]) B XB TB (by omega) ret ?o ?c ?b ?l ?dd ?_ ?c2 ?c3 ?c4; (case o => k_is); (case c => k_is); (case b => exact BindsTo.of_eq rfl); (case l => exact rfl); (case dd => decide +kernel); (case c2 => exact rfl); (case c3 => exact rfl); (case c4 => exact rfl); k_whole)
  clear ret B A₀ Q E
  intro L' h' tk0 cells' F' N' Y' B' X' T' T0
  k_cells Y'
  (try simp only [List.cons_append, List.nil_append] at N')
  (try dsimp only)
  (try k_fold)
  have hlx : (wN x.natAbs).length ≤ 4 := wN_len (by omega)
  have hly : (wN y.natAbs).length ≤ 4 := wN_len (by omega)
  have ex : (if x < 0 then -x else x) = (x.natAbs : Int) := by split <;> omega
  have ey : (if y < 0 then -y else y) = (y.natAbs : Int) := by split <;> omega
  (k_with_none)
  (k_with "exec For Name Call cons nil" => (k_dflt (refine wpAny_For ?_)))
  (k_with "myiter" => (
     k_dflt (refine iter_rangeK (by k_asm) (by k_asm) (by assumption) (small_one (by omega) (by omega) (by omega) (by omega)) ?_)
     intro h' it' F' N' ib'
     k_dflt (refine' for_times rfl rfl rfl ?f9 ?mj ?n9 ib'.hit ib'.it0 ib'.itL ib'.nit ?t3 ?t4 ?p9; (case f9 => k_asm); (case n9 => k_asm); (case mj => exact rfl); (case p9 => passes_own); k_whole)
     (case' t3 => (intro i tx tk₂ h₁ oit z hin hz F₁ N₁))
     (case' t4 => (intro o1 h₁ tk₁ F₁ N₁))
     ))
  (k_with "call builtin:abs" => ((refine call_abs_nat ?_); intro u' tk'))
  (k_with "mylc" => (k_dflt ((with_reducible show wpAny _ _ (eval (Expr.ListComp (Expr.Name _ _) [⟨_, _, [Expr.Compare _ _ _ _], _⟩] _ _) _) _ _ _); refine LCt.ListComp_T (F₀ := by k_asm) (by with_unfolding_all rfl) (by decide) (by rfl) (by decide) (by rfl) ?_)))
  (k_with "mypow" => (first
    | (refine pow_int_small (mul_bnd hlx (by assumption) (le4z (by assumption) (by assumption) (by assumption))).1 (mul_bnd hlx (by assumption) (le4z (by assumption) (by assumption) (by assumption))).2 (by decide) ?_)
    | (refine pow_int_small (by assumption) (milb (by assumption) (by assumption)) (by decide) ?_)))
  (k_with "mylen" => (k_dflt ((refine' len_led ?n9 ?hm ?oc ?od ?i9 ?l9 ?_; (case n9 => k_asm); (case hm => k_mem); (case oc => exact rfl); (case od => exact rfl); (case i9 => assumption); (case l9 => exact Nat.le_trans (List.length_filter_le _ _) (by simp only [List.length_map, rangeKs_length]; omega)); k_whole))))
  (k_with "mycompT" => (first
    | (k_dflt ((refine' filt_src ?hh ?f9 ?n9 ?hm ?oc ?od ?i9 ?l9 (fun _ => rfl) (fun _ => rfl) (by decide) ?hz9 ?hm9 ?ho9 (fun _ => rfl) (by decide) ?_; (case hh => exact rfl); (case f9 => k_asm); (case n9 => k_asm); (case hm => k_mem); (case oc => exact rfl); (case od => exact rfl); (case i9 => assumption); (case l9 => (simp only [List.length_map, rangeKs_length]; omega)); (case hz9 => exact rfl); (case hm9 => k_mem); (case ho9 => assumption); k_whole); intro g' ys9 hy9; unfold LCg.FinE; intro D9 h9 tk9 F9 N9 off9))
    | (k_dflt (refine' bools_src ?hh ?f9 ?n9 ?hm ?oc ?od ?sz ?bs ?x9 ?t9 ?e1 ?e2 ?g1 ?g2 (fun _ => rfl) (fun _ => rfl) (by decide) (fun _ => rfl) (fun _ => rfl) ?_; (case hh => exact rfl); (case f9 => k_asm); (case n9 => k_asm); (case hm => k_mem); (case oc => exact rfl); (case od => exact rfl); (case sz => exact Nat.le_of_ble_eq_true rfl); (case bs => exact four_bools); (case x9 => k_asm); (case t9 => k_asm); (case e1 => k_is); (case e2 => k_is); (case g1 => exact rfl); (case g2 => exact rfl); k_whole); intro g'; unfold LCg.FinE; intro D9 h9 tk9 F9 N9 off9)))
  (k_with "call ref" => (first
    | ((with_reducible show wpAny _ _ (call (Value.ref 139) [_, Value.int (_ * _) _]) _ _ _); (rename (KBw.bInts _ = List.flatten _) => hfl9); refine Con.use (c_madeMul hfl9 hlx (by omega)) (by k_asm) (by k_asm) (by k_asm) (by k_asm) (by k_asm) rfl (by ktr_room) (by ktr_units) trivial ?_; clear hfl9; rintro v' h' tk' rfl F' N')
    | (refine Con.use (c_madeAdd (by assumption) (by omega) (by omega) (by omega)) (by k_asm) (by k_asm) (by k_asm) (by k_asm) (by k_asm) rfl (by ktr_room) (by ktr_units) trivial ?_; rintro v' h' tk' rfl F' N')
    | (refine Con.use (c_add (by assumption) (by assumption) (by omega) (by omega)) (by k_asm) (by k_asm) (by k_asm) (by k_asm) (by k_asm) rfl (by ktr_room) (by ktr_units) trivial ?_; rintro v' h' tk' ⟨b', t', rfl, hb'⟩ F' N')
    | (refine Con.use (c_mul (by assumption) (by omega) (by omega) (by omega)) (by k_asm) (by k_asm) (by k_asm) (by k_asm) (by k_asm) rfl (by ktr_room) (by ktr_units) trivial ?_; rintro v' h' tk' ⟨b', t', rfl, hb'⟩ F' N')
    | (refine Con.use (c_contains (by assumption) (by assumption)) (by k_asm) (by k_asm) (by k_asm) (by k_asm) (by k_asm) rfl (by ktr_room) (by ktr_units) trivial ?_; rintro v' h' tk' rfl F' N')
    | (refine Con.use (c_lt (by assumption) (by assumption)) (by k_asm) (by k_asm) (by k_asm) (by k_asm) (by k_asm) rfl (by ktr_room) (by ktr_units) trivial ?_; rintro v' h' tk' rfl F' N')
    | (refine Con.use (c_le (by assumption) (by assumption)) (by k_asm) (by k_asm) (by k_asm) (by k_asm) (by k_asm) rfl (by ktr_room) (by ktr_units) trivial ?_; rintro v' h' tk' rfl F' N')
    | (refine Con.use (c_int2ap (by omega)) (by k_asm) (by k_asm) (by k_asm) (by k_asm) (by k_asm) rfl (by ktr_room) (by ktr_units) trivial ?_; rintro v' h' tk' ⟨b', t', rfl, hb'⟩ F' N')
    | (refine ConS.use (s_lettersN (by assumption) (by omega) (by omega) (by omega)) (by k_asm) (by k_asm) (by k_asm) (by assumption) (by assumption) (by assumption) (by assumption) rfl (by ktr_room) (by ktr_units) trivial ?_; rintro v' h' tk' g' rfl T0' F' N' B' X' T' D')
    | (refine Con.use (c_sizeN (by omega)) (by k_asm) (by k_asm) (by k_asm) (by k_asm) (by k_asm) rfl (by ktr_room) (by ktr_units) trivial ?_; rintro v' h' tk' ⟨t', rfl⟩ F' N')))
  (k_with "compareOp Lt ref ref" => (k_dflt (refine' lt_pairs ?n9 ?h1 ?h2 ?c1 ?c2 ?d1 ?d2 ?u9 ?_; (case n9 => k_asm); (case h1 => k_mem); (case h2 => k_mem); (case c1 => exact rfl); (case c2 => exact rfl); (case d1 => exact rfl); (case d2 => exact rfl); (case u9 => ktr_units); k_whole)))
  (k_with "compareOp LtE ref ref" => (k_dflt (refine' le_pairs ?n9 ?h1 ?h2 ?c1 ?c2 ?d1 ?d2 ?u9 ?_; (case n9 => k_asm); (case h1 => k_mem); (case h2 => k_mem); (case c1 => exact rfl); (case c2 => exact rfl); (case d1 => exact rfl); (case d2 => exact rfl); (case u9 => ktr_units); k_whole)))
  k_steps
  · exact FinS.intro (by assumption) (by assumption) rfl
  · refine FinS.intro (by assumption) (by assumption) ?_
    rw [has_runs, lt_words, le_words, le_words2]
    simp only [beq_self_eq_true, Bool.and_true]
  · rename (News _ _ _ _) => nn9
    exact TurnEnd.next (by assumption) (fun p hp => nn9 p (List.mem_cons_of_mem _ hp)) ⟨_, rfl⟩
theorem fillT13 : Challenge.rw_nq0031_01 = Challenge.rw_nq0031_01 ∧ Mine.hd.heap_39 = Mine.hd.heap_39 := by k_with_none; k_fill; exact ⟨rfl, rfl⟩
theorem for_place {prog : Program} {w : World} {h₀ : Heap} {it : Addr} {A : Around} {E : Value → Shared → Prop} {s : Shared} {env : Env} {Q : Flow → Shared → Prop} {pv : Pos} {body : List Stmt} {M : Str → Option Value} {news : List (Addr × Obj)} {a : Int} {k : Nat}
    (hh : A.handled = none) (hxv : env.kindOf (Str.ofString "place") = some .local) (hp : (env.scope.kind == .class || (env.scope.kind == .module && env.locals != env.globals)) = false)
    (F : Fr h₀ env.locals s.heap M) (hM : M (Str.ofString "place") = none) (N : News h₀ env.locals s.heap news) (hit : IsRangeIter s.heap it (a + ((0 : Nat) : Int) * 1) ((k : Int) - ((0 : Nat) : Int)) 1) (it0 : h₀.get? it = none) (itL : it ≠ env.locals) (nit : ∀ p ∈ news, p.1 ≠ it)
    (turn : ∀ i tx tk₂ h₁ oit z, i < k → z = a + (i : Int) → Fr h₀ env.locals h₁ (fun y => if y = Str.ofString "place" then some (.int z tx) else M y) → News h₀ env.locals h₁ ((it, oit) :: news) →
      wpAny (model prog w) A (execs body env) (TurnEnd s h₀ env.locals ((it, oit) :: news) (fun m₁ => ∃ o1, m₁ = (fun y => if y = Str.ofString "place" then o1 else M y)) Q) E { s with heap := h₁, toks := tk₂ })
    (fin : ∀ o1 h₁ tk₁, Fr h₀ env.locals h₁ (fun y => if y = Str.ofString "place" then o1 else M y) → News h₀ env.locals h₁ news → wpAny (model prog w) A (execs [] env) Q E { s with heap := h₁, toks := tk₁ })
    (hE : PassesOwn (model prog w) A env E) :
    codeAny (model prog w) A (.forLoop (.Name (Str.ofString "place") pv) (.ref it) body [] env) (fun r s' => match r with | .ok f => Q f s' | .error e => cameBackBy (model prog w) A env E e s') s := by
  refine for_each (steps_range hh it a k) hxv hp hit F N it0 itL nit 0 (Nat.zero_le _) (fun _ m₁ => ∃ o1, m₁ = (fun y => if y = Str.ofString "place" then o1 else M y)) ⟨none, ?_⟩ ?_ ?_ hE
  · funext y
    by_cases h1 : y = Str.ofString "place"
    · subst h1; simp [hM]
    · simp [h1]
  · rintro i x tk tk₂ m₁ h₁ oit hin _ ⟨tx, rfl⟩ ⟨o1, rfl⟩ F₁ N₁
    refine turn i tx tk₂ h₁ oit _ hin rfl ?_ N₁
    have e : (fun y => if y = Str.ofString "place" then some (Value.int (a + (i : Int)) tx) else (fun y => if y = Str.ofString "place" then o1 else M y) y) = (fun y => if y = Str.ofString "place" then some (Value.int (a + (i : Int)) tx) else M y) := by
      funext y
      by_cases h1 : y = Str.ofString "place"
      · simp [h1]
      · simp [h1]
    rw [← e]; exact F₁
  · rintro m₁ h₁ tk₁ ⟨o1, rfl⟩ F₁ N₁
    exact fin o1 h₁ tk₁ F₁ N₁
abbrev drawnI (l : List Int) : List Int := List.map (fun k' : Int => k'.fmod 131071 - 65535) l ++ [4113, -17]
theorem drawn_len (l : List Int) : (drawnI l).length = (List.map (fun k' : Int => k'.fmod 131071 - 65535) l).length + (1 + 1) := by simp
theorem drawn_bnd (l : List Int) (i : Nat) : -65535 ≤ (drawnI l).getD i 0 ∧ (drawnI l).getD i 0 ≤ 65535 := by
  rw [List.getD_eq_getElem?_getD]
  cases h : (drawnI l)[i]? with
  | none => simp
  | some v =>
    rw [Option.getD_some]
    have hm := List.mem_of_getElem? h
    rw [drawnI, List.mem_append] at hm
    rcases hm with hm | hm
    · rw [List.mem_map] at hm
      obtain ⟨k, _, rfl⟩ := hm
      have h1 := Int.fmod_nonneg_of_pos k (b := 131071) (by decide)
      have h2 := Int.fmod_lt_of_pos k (b := 131071) (by decide)
      omega
    · simp at hm; omega
set_option maxHeartbeats 4000000 in
theorem law_holds : PySem.Challenge.rw_nq0031_01.Holds := hd (by
  (k_with_none)
  (k_with "exec For Name Call cons nil" => (k_dflt (refine wpAny_For ?_)))
  (k_with "myiter" => (
     k_dflt (refine iter_rangeK (by k_asm) (by k_asm) (by assumption) (small_one (by omega) (by omega) (by omega) (by simp only [List.length_map]; omega)) ?_)
     intro h' it' F' N' ib'
     k_dflt (refine' for_place rfl rfl rfl ?f9 ?mj ?n9 ib'.hit ib'.it0 ib'.itL ib'.nit ?t3 ?t4 ?p9; (case f9 => k_asm); (case n9 => k_asm); (case mj => exact rfl); (case p9 => passes_own); k_whole)
     (case' t3 => (intro i tx tk₂ h₁ oit z hin hz F₁ N₁))
     (case' t4 => (intro o1 h₁ tk₁ F₁ N₁))
     ))
  (k_with "subscriptTail Name BinOp ref int" => ((k_dflt (refine' item_ints ?n ?m ?c ?d ?i ?e0 ?e1 ?e2 ?_; (case n => k_asm); (case m => k_mem); (case c => exact rfl); (case d => exact rfl); (case i => assumption); (case e0 => omega); (case e1 => (rw [drawn_len]; omega)); (case e2 => omega); k_whole)); intro t9))
  (k_with "subscriptTail Name Name ref int" => ((k_dflt (refine' item_ints ?n ?m ?c ?d ?i ?e0 ?e1 ?e2 ?_; (case n => k_asm); (case m => k_mem); (case c => exact rfl); (case d => exact rfl); (case i => assumption); (case e0 => omega); (case e1 => (rw [drawn_len]; omega)); (case e2 => omega); k_whole)); intro t9))
  (k_with "call ref" => (k_dflt (refine' ConS.use0 (s_pair (drawn_bnd _ _).1 (drawn_bnd _ _).2 (drawn_bnd _ _).1 (drawn_bnd _ _).2) ?b9 ?f9 ?n9 ?x9 ?t9 ?k9 ?r9 ?u9 trivial ?_; (case x9 => assumption); (case t9 => assumption); (case f9 => k_asm); (case n9 => k_asm); (case b9 => assumption); (case k9 => exact rfl); (case r9 => first | decide | ktr_room); (case u9 => first | decide | ktr_units); k_whole); rintro v' h' tk' rfl F' N'))
  k_go0
  (all_goals try k_fold)
  k_steps
  exact TurnEnd.next (by assumption) (by assumption) ⟨_, rfl⟩)
end Mine
end
theorem PySem.Challenge.cw_nq0031_01_holds : PySem.Challenge.rw_nq0031_01.Holds :=
  Mine.law_holds
