import PyProof.Rows.All
import Wide.All
import OpenK.AllK
import Wide.FinOn
import PySem.Challenge.RW_aq6014_01
open PySem PySem.W PyProof.Rows
set_option Elab.async false
set_option rowWalk.seconds 0
section
open PySem PySem.W PyProof.Rows
set_option Elab.async false
namespace Mine
set_option maxRecDepth 100000 in
set_option maxHeartbeats 8000000 in
open_top hd for PySem.Challenge.rw_aq6014_01
end Mine
end
section
open PySem PySem.W PyProof.Rows PySem.Calls PySem.Spec
set_option Elab.async false
set_option maxRecDepth 100000
namespace Mine
noncomputable abbrev PW := PySem.Challenge.rw_aq6014_01.row.prog
noncomputable abbrev LO : List Str := looseW Mine.hd.view_39
      [Str.ofString "to_jd_gregorian", Str.ofString "to_jd_hebrew", Str.ofString "hanukkah", Str.ofString "purim",
        Str.ofString "rosh_hashanah", Str.ofString "yom_kippur", Str.ofString "passover", Str.ofString "shavuot",
        Str.ofString "sukkot", Str.ofString "shemini_azeret", Str.ofString "lag_baomer", Str.ofString "tu_beshvat",
        Str.ofString "tisha_bav"]
/-- a call of f upon vs, d frames deep at most: it comes back with a value of R -/
structure Con (w : World) (f : Addr) (d : Nat) (vs : List Value) (R : Tok → Value) : Prop where
  out : ∀ (mean : ExcName → Option Value) (mg mb : Str → Option Value) (dp un : Nat) (gd : Option (List Code)) (cn : Str) (cs : Scope) (a : Addr) (ccd : Value) (cl : List (Str × Addr)) (outer : List Env) (A₀ : Around) (base h₀ : Heap) (L : Addr) (m : Str → Option Value) (news : List (Addr × Obj)) (s : Shared) (Q E : Value → Shared → Prop),
    Below A₀ base outer h₀ → Fr h₀ L s.heap m → (Mine.hd.heap_39 w.params).In h₀ → News h₀ L s.heap news → Top Mine.hd.view_39 LO mean mg mb h₀ → cs.kind = .function →
    dp + d < recursionLimit → un + 8 * d < cLine →
    (∀ (t : Tok) (h' : Heap) (tk' : Nat), Fr h₀ L h' m → News h₀ L h' news → Q (R t) { s with heap := h', toks := tk' }) →
      wpAny (model PW w) (ktrTop dp un gd cn cs L a ccd cl outer) (call (.ref f) vs) Q E s

theorem Con.use {w : World} {f : Addr} {d : Nat} {vs : List Value} {R : Tok → Value} {mean : ExcName → Option Value} {mg mb : Str → Option Value} {dp un : Nat} {gd : Option (List Code)} {cn : Str} {cs : Scope} {a : Addr} {ccd : Value} {cl : List (Str × Addr)} {outer : List Env} {A₀ : Around} {base h₀ : Heap} {L : Addr} {m : Str → Option Value} {news : List (Addr × Obj)} {s : Shared} {Q E : Value → Shared → Prop}
    (C : Con w f d vs R) (B : Below A₀ base outer h₀) (F : Fr h₀ L s.heap m) (X : (Mine.hd.heap_39 w.params).In h₀) (N : News h₀ L s.heap news) (T : Top Mine.hd.view_39 LO mean mg mb h₀) (hk : cs.kind = .function)
    (hd : dp + d < recursionLimit) (hu : un + 8 * d < cLine)
    (ret : ∀ (t : Tok) (h' : Heap) (tk' : Nat), Fr h₀ L h' m → News h₀ L h' news → Q (R t) { s with heap := h', toks := tk' }) :
    wpAny (model PW w) (ktrTop dp un gd cn cs L a ccd cl outer) (call (.ref f) vs) Q E s :=
  C.out mean mg mb dp un gd cn cs a ccd cl outer A₀ base h₀ L m news s Q E B F X N T hk hd hu ret

/-- the same, of a def that hands back a new tuple of three ints -/
structure Con3 (w : World) (f : Addr) (d : Nat) (vs : List Value) (x y z : Int) : Prop where
  out : ∀ (mean : ExcName → Option Value) (mg mb : Str → Option Value) (dp un : Nat) (gd : Option (List Code)) (cn : Str) (cs : Scope) (a : Addr) (ccd : Value) (cl : List (Str × Addr)) (outer : List Env) (A₀ : Around) (base h₀ : Heap) (L : Addr) (m : Str → Option Value) (news : List (Addr × Obj)) (s : Shared) (Q E : Value → Shared → Prop),
    Below A₀ base outer h₀ → Fr h₀ L s.heap m → (Mine.hd.heap_39 w.params).In h₀ → News h₀ L s.heap news → Top Mine.hd.view_39 LO mean mg mb h₀ → cs.kind = .function →
    dp + d < recursionLimit → un + 8 * d < cLine →
    (∀ (D : Addr) (t1 t2 t3 : Tok) (c : Nat) (h' : Heap) (tk' : Nat), Fr h₀ L h' m → News h₀ L h' ((D, ({ cls := .type "tuple", data := .seq #[.int x t1, .int y t2, .int z t3] c } : Obj)) :: news) → AllLt D news → Q (.ref D) { s with heap := h', toks := tk' }) →
      wpAny (model PW w) (ktrTop dp un gd cn cs L a ccd cl outer) (call (.ref f) vs) Q E s

theorem Con3.use {w : World} {f : Addr} {d : Nat} {vs : List Value} {x y z : Int} {mean : ExcName → Option Value} {mg mb : Str → Option Value} {dp un : Nat} {gd : Option (List Code)} {cn : Str} {cs : Scope} {a : Addr} {ccd : Value} {cl : List (Str × Addr)} {outer : List Env} {A₀ : Around} {base h₀ : Heap} {L : Addr} {m : Str → Option Value} {news : List (Addr × Obj)} {s : Shared} {Q E : Value → Shared → Prop}
    (C : Con3 w f d vs x y z) (B : Below A₀ base outer h₀) (F : Fr h₀ L s.heap m) (X : (Mine.hd.heap_39 w.params).In h₀) (N : News h₀ L s.heap news) (T : Top Mine.hd.view_39 LO mean mg mb h₀) (hk : cs.kind = .function)
    (hd : dp + d < recursionLimit) (hu : un + 8 * d < cLine)
    (ret : ∀ (D : Addr) (t1 t2 t3 : Tok) (c : Nat) (h' : Heap) (tk' : Nat), Fr h₀ L h' m → News h₀ L h' ((D, ({ cls := .type "tuple", data := .seq #[.int x t1, .int y t2, .int z t3] c } : Obj)) :: news) → AllLt D news → Q (.ref D) { s with heap := h', toks := tk' }) :
    wpAny (model PW w) (ktrTop dp un gd cn cs L a ccd cl outer) (call (.ref f) vs) Q E s :=
  C.out mean mg mb dp un gd cn cs a ccd cl outer A₀ base h₀ L m news s Q E B F X N T hk hd hu ret

theorem fmod4 (a : Int) : a.fmod 4 = a % 4 := by rw [Int.fmod_eq_emod_of_nonneg] <;> decide
theorem fmodE (a : Int) {b : Int} (h : 0 ≤ b) : a.fmod b = a % b := Int.fmod_eq_emod_of_nonneg a h
theorem fdivE (a : Int) {b : Int} (h : 0 ≤ b) : a.fdiv b = a / b := Int.fdiv_eq_ediv_of_nonneg a h
theorem beqD (a b : Int) : (a == b) = decide (a = b) := by by_cases h : a = b <;> simp [h]
theorem fd4 (a : Int) : a.fdiv 4 = a / 4 := fdivE a (by decide)
theorem fm4 (a : Int) : a.fmod 4 = a % 4 := fmodE a (by decide)
theorem fd7 (a : Int) : a.fdiv 7 = a / 7 := fdivE a (by decide)
theorem fm7 (a : Int) : a.fmod 7 = a % 7 := fmodE a (by decide)
theorem fd10 (a : Int) : a.fdiv 10 = a / 10 := fdivE a (by decide)
theorem fm10 (a : Int) : a.fmod 10 = a % 10 := fmodE a (by decide)
theorem fd12 (a : Int) : a.fdiv 12 = a / 12 := fdivE a (by decide)
theorem fm12 (a : Int) : a.fmod 12 = a % 12 := fmodE a (by decide)
theorem fd19 (a : Int) : a.fdiv 19 = a / 19 := fdivE a (by decide)
theorem fm19 (a : Int) : a.fmod 19 = a % 19 := fmodE a (by decide)
theorem fd100 (a : Int) : a.fdiv 100 = a / 100 := fdivE a (by decide)
theorem fm100 (a : Int) : a.fmod 100 = a % 100 := fmodE a (by decide)
theorem fd365 (a : Int) : a.fdiv 365 = a / 365 := fdivE a (by decide)
theorem fm365 (a : Int) : a.fmod 365 = a % 365 := fmodE a (by decide)
theorem fd367 (a : Int) : a.fdiv 367 = a / 367 := fdivE a (by decide)
theorem fm367 (a : Int) : a.fmod 367 = a % 367 := fmodE a (by decide)
theorem fd400 (a : Int) : a.fdiv 400 = a / 400 := fdivE a (by decide)
theorem fm400 (a : Int) : a.fmod 400 = a % 400 := fmodE a (by decide)
theorem fd1461 (a : Int) : a.fdiv 1461 = a / 1461 := fdivE a (by decide)
theorem fm1461 (a : Int) : a.fmod 1461 = a % 1461 := fmodE a (by decide)
theorem fd25920 (a : Int) : a.fdiv 25920 = a / 25920 := fdivE a (by decide)
theorem fm25920 (a : Int) : a.fmod 25920 = a % 25920 := fmodE a (by decide)
theorem fd36524 (a : Int) : a.fdiv 36524 = a / 36524 := fdivE a (by decide)
theorem fm36524 (a : Int) : a.fmod 36524 = a % 36524 := fmodE a (by decide)
theorem fd146097 (a : Int) : a.fdiv 146097 = a / 146097 := fdivE a (by decide)
theorem fm146097 (a : Int) : a.fmod 146097 = a % 146097 := fmodE a (by decide)
theorem lk_hit {n : Str} {v : Value} {r : Option Value} {i : Decidable (n = n)} : (@ite _ (n = n) i (some v) r) = some v := if_pos rfl
theorem lk_miss {n x : Str} {v : Value} {r o : Option Value} {i : Decidable (x = n)} (h : x ≠ n) (hr : r = o) : (@ite _ (x = n) i (some v) r) = o := (if_neg h).trans hr
theorem ll_hit {n : Str} {v : Value} {r : List (Str × Value)} : List.lookup n ((n, v) :: r) = some v := by simp [List.lookup]
theorem ll_miss {n x : Str} {v : Value} {o : Option Value} {r : List (Str × Value)} (h : x ≠ n) (hr : List.lookup x r = o) : List.lookup x ((n, v) :: r) = o := by
  rw [List.lookup_cons, show (x == n) = false from by simpa using h]; exact hr
def nodupK : List (Str × NameKind) → Bool
  | [] => true
  | p :: r => r.all (fun q => !(q.1 == p.1)) && nodupK r
theorem lookup_nd {x : Str} {k : NameKind} : ∀ {l : List (Str × NameKind)}, nodupK l = true → (x, k) ∈ l → l.lookup x = some k
  | p :: r, h, hm => by
    unfold nodupK at h
    obtain ⟨h1, h2⟩ := Bool.and_eq_true_iff.mp h
    rcases List.mem_cons.mp hm with e | hm
    · subst e; simp [List.lookup]
    · have := List.all_eq_true.mp h1 _ hm
      have hne : (x == p.1) = false := by simpa using this
      rw [List.lookup_cons, hne]
      exact lookup_nd h2 hm
structure ND (scope : Scope) : Prop where
  nd : nodupK scope.names = true
theorem ND.kind {scope : Scope} {name : Str} {L a : Addr} {cd : Value} {x : Str} {k : NameKind} (h : ND scope) (hm : (x, k) ∈ scope.names) : (envOf name scope L a cd).kindOf x = some k := lookup_nd h.nd hm
theorem with_nd {M : Model} {A : Around} {body : List Stmt} {name : Str} {scope : Scope} {L a : Addr} {cd : Value} {Q : Flow → Shared → Prop} {E : Value → Shared → Prop} {s : Shared} (h : nodupK scope.names = true) (k : ND scope → wpAny M A (execs body (envOf name scope L a cd)) Q E s) : wpAny M A (execs body (envOf name scope L a cd)) Q E s := k ⟨h⟩
theorem mem_hd {α : Type} {a : α} {l : List α} : a ∈ a :: l := List.mem_cons_self
theorem mem_tl {α : Type} {a b : α} {l : List α} (h : a ∈ l) : a ∈ b :: l := List.mem_cons_of_mem _ h
structure JMark : Prop where
def Joined (h₀ : Heap) (L : Addr) (m : Str → Option Value) (news : List (Addr × Obj)) (s : Shared) (x : Str) (v : Int) (fl : Flow) (s' : Shared) : Prop :=
  fl = .next ∧ ∃ t h' tk', s' = { s with heap := h', toks := tk' } ∧ Fr h₀ L h' (fun y => if y = x then some (.int v t) else m y) ∧ News h₀ L h' news
theorem joined_set {h₀ h' : Heap} {L : Addr} {m : Str → Option Value} {news : List (Addr × Obj)} {s s' : Shared} {x : Str} {v v' : Int} {t : Tok} {tk' : Nat} (e : v' = v) (hs : s' = { s with heap := h', toks := tk' }) (F : Fr h₀ L h' (fun y => if y = x then some (.int v' t) else m y)) (N : News h₀ L h' news) : Joined h₀ L m news s x v .next s' := by
  subst e; exact ⟨rfl, t, h', tk', hs, F, N⟩
theorem joined_same {h₀ h' : Heap} {L : Addr} {m : Str → Option Value} {news : List (Addr × Obj)} {s s' : Shared} {x : Str} {v v' : Int} {t : Tok} {tk' : Nat} (e : v' = v) (hm : m x = some (.int v' t)) (hs : s' = { s with heap := h', toks := tk' }) (F : Fr h₀ L h' m) (N : News h₀ L h' news) : Joined h₀ L m news s x v .next s' := by
  subst e
  refine ⟨rfl, t, h', tk', hs, ?_, N⟩
  have : (fun y => if y = x then some (.int v' t) else m y) = m := by
    funext y
    by_cases h : y = x
    · rw [if_pos h, h, hm]
    · rw [if_neg h]
  rw [this]; exact F
theorem if_join {M : Model} {A : Around} {E : Value → Shared → Prop} {s : Shared} {h₀ : Heap} {L : Addr} {m : Str → Option Value} {news : List (Addr × Obj)} {env : Env} {st : Stmt} (x : Str) (v : Int) {Q : Flow → Shared → Prop} (F : Fr h₀ L s.heap m) (N : News h₀ L s.heap news)
    (hc : JMark → wpAny M A (exec st env) (Joined h₀ L m news s x v) E s)
    (hk : ∀ (t : Tok) (h' : Heap) (tk' : Nat), Fr h₀ L h' (fun y => if y = x then some (.int v t) else m y) → News h₀ L h' news → Q .next { s with heap := h', toks := tk' }) : wpAny M A (exec st env) Q E s := by
  refine wpAny_mono (hc ⟨⟩) (fun fl s₂ hq => ?_) fun _ _ h => h
  obtain ⟨rfl, t, h', tk', rfl, F', N'⟩ := hq
  exact hk t h' tk' F' N'
theorem con3_end {h₀ h' : Heap} {L : Addr} {m : Str → Option Value} {news : List (Addr × Obj)} {s : Shared} {Q : Value → Shared → Prop} {x y z x' y' z' : Int} {D : Addr} {t1 t2 t3 : Tok} {c : Nat} {tk' : Nat}
    (ret : ∀ (D : Addr) (t1 t2 t3 : Tok) (c : Nat) (h' : Heap) (tk' : Nat), Fr h₀ L h' m → News h₀ L h' ((D, ({ cls := .type "tuple", data := .seq #[.int x t1, .int y t2, .int z t3] c } : Obj)) :: news) → AllLt D news → Q (.ref D) { s with heap := h', toks := tk' })
    (F : Fr h₀ L h' m) (N : News h₀ L h' ((D, ({ cls := .type "tuple", data := .seq #[.int x' t1, .int y' t2, .int z' t3] c } : Obj)) :: news)) (hl : ∀ p ∈ news, p.1 < D) (e1 : x' = x) (e2 : y' = y) (e3 : z' = z) : Q (.ref D) { s with heap := h', toks := tk' } := by
  subst e1; subst e2; subst e3
  exact ret D t1 t2 t3 c h' tk' F N (allLt_of hl)
/-- the same, nothing said of the ledger -/
structure Con0 (w : World) (f : Addr) (d : Nat) (vs : List Value) (R : Tok → Value) : Prop where
  out : ∀ (mean : ExcName → Option Value) (mg mb : Str → Option Value) (dp un : Nat) (gd : Option (List Code)) (cn : Str) (cs : Scope) (a : Addr) (ccd : Value) (cl : List (Str × Addr)) (outer : List Env) (A₀ : Around) (base h₀ : Heap) (L : Addr) (m : Str → Option Value) (s : Shared) (Q E : Value → Shared → Prop),
    Below A₀ base outer h₀ → Fr h₀ L s.heap m → (Mine.hd.heap_39 w.params).In h₀ → Top Mine.hd.view_39 LO mean mg mb h₀ → cs.kind = .function →
    dp + d < recursionLimit → un + 8 * d < cLine →
    (∀ (t : Tok) (h' : Heap) (tk' : Nat), Fr h₀ L h' m → News h₀ L h' [] → Q (R t) { s with heap := h', toks := tk' }) →
      wpAny (model PW w) (ktrTop dp un gd cn cs L a ccd cl outer) (call (.ref f) vs) Q E s

theorem Con0.use {w : World} {f : Addr} {d : Nat} {vs : List Value} {R : Tok → Value} {mean : ExcName → Option Value} {mg mb : Str → Option Value} {dp un : Nat} {gd : Option (List Code)} {cn : Str} {cs : Scope} {a : Addr} {ccd : Value} {cl : List (Str × Addr)} {outer : List Env} {A₀ : Around} {base h₀ : Heap} {L : Addr} {m : Str → Option Value} {s : Shared} {Q E : Value → Shared → Prop}
    (C : Con0 w f d vs R) (B : Below A₀ base outer h₀) (F : Fr h₀ L s.heap m) (X : (Mine.hd.heap_39 w.params).In h₀) (T : Top Mine.hd.view_39 LO mean mg mb h₀) (hk : cs.kind = .function)
    (hd : dp + d < recursionLimit) (hu : un + 8 * d < cLine)
    (ret : ∀ (t : Tok) (h' : Heap) (tk' : Nat), Fr h₀ L h' m → News h₀ L h' [] → Q (R t) { s with heap := h', toks := tk' }) :
    wpAny (model PW w) (ktrTop dp un gd cn cs L a ccd cl outer) (call (.ref f) vs) Q E s :=
  C.out mean mg mb dp un gd cn cs a ccd cl outer A₀ base h₀ L m s Q E B F X T hk hd hu ret

theorem nil_of {h₀ h : Heap} {L : Addr} {m : Str → Option Value} (_F : Fr h₀ L h m) : News h₀ L h [] := News.nil
/-- the same, a ValueError comes -/
structure ConX0 (w : World) (f : Addr) (d : Nat) (vs : List Value) : Prop where
  out : ∀ (mean : ExcName → Option Value) (mg mb : Str → Option Value) (dp un : Nat) (gd : Option (List Code)) (cn : Str) (cs : Scope) (a : Addr) (ccd : Value) (cl : List (Str × Addr)) (outer : List Env) (A₀ : Around) (base h₀ : Heap) (L : Addr) (m : Str → Option Value) (s : Shared) (Q E : Value → Shared → Prop),
    Below A₀ base outer h₀ → Fr h₀ L s.heap m → (Mine.hd.heap_39 w.params).In h₀ → Top Mine.hd.view_39 LO mean mg mb h₀ → cs.kind = .function →
    dp + d < recursionLimit → un + 8 * d < cLine →
    (∀ (e t : Addr) (xs : List Value) (ns : List (Addr × Obj)) (g h' : Heap) (tk' : Nat), Fr h₀ L g m → RaisedS base g (envX cn cs L a ccd cl :: outer) e (.type "ValueError") t xs ns h' → RaisedK base (envX cn cs L a ccd cl :: outer) e (.type "ValueError") t xs ns h' → g.UpToSlots h' → E (.ref e) { s with heap := h', toks := tk' }) →
      wpAny (model PW w) (ktrTop dp un gd cn cs L a ccd cl outer) (call (.ref f) vs) Q E s

theorem ConX0.use {w : World} {f : Addr} {d : Nat} {vs : List Value} {mean : ExcName → Option Value} {mg mb : Str → Option Value} {dp un : Nat} {gd : Option (List Code)} {cn : Str} {cs : Scope} {a : Addr} {ccd : Value} {cl : List (Str × Addr)} {outer : List Env} {A₀ : Around} {base h₀ : Heap} {L : Addr} {m : Str → Option Value} {s : Shared} {Q E : Value → Shared → Prop}
    (C : ConX0 w f d vs) (B : Below A₀ base outer h₀) (F : Fr h₀ L s.heap m) (X : (Mine.hd.heap_39 w.params).In h₀) (T : Top Mine.hd.view_39 LO mean mg mb h₀) (hk : cs.kind = .function)
    (hd : dp + d < recursionLimit) (hu : un + 8 * d < cLine)
    (ret : ∀ (e t : Addr) (xs : List Value) (ns : List (Addr × Obj)) (g h' : Heap) (tk' : Nat), Fr h₀ L g m → RaisedS base g (envX cn cs L a ccd cl :: outer) e (.type "ValueError") t xs ns h' → RaisedK base (envX cn cs L a ccd cl :: outer) e (.type "ValueError") t xs ns h' → g.UpToSlots h' → E (.ref e) { s with heap := h', toks := tk' }) :
    wpAny (model PW w) (ktrTop dp un gd cn cs L a ccd cl outer) (call (.ref f) vs) Q E s :=
  C.out mean mg mb dp un gd cn cs a ccd cl outer A₀ base h₀ L m s Q E B F X T hk hd hu ret

/-- the same, a new tuple of three ints -/
structure Con30 (w : World) (f : Addr) (d : Nat) (vs : List Value) (x y z : Int) : Prop where
  out : ∀ (mean : ExcName → Option Value) (mg mb : Str → Option Value) (dp un : Nat) (gd : Option (List Code)) (cn : Str) (cs : Scope) (a : Addr) (ccd : Value) (cl : List (Str × Addr)) (outer : List Env) (A₀ : Around) (base h₀ : Heap) (L : Addr) (m : Str → Option Value) (s : Shared) (Q E : Value → Shared → Prop),
    Below A₀ base outer h₀ → Fr h₀ L s.heap m → (Mine.hd.heap_39 w.params).In h₀ → Top Mine.hd.view_39 LO mean mg mb h₀ → cs.kind = .function →
    dp + d < recursionLimit → un + 8 * d < cLine →
    (∀ (D : Addr) (t1 t2 t3 : Tok) (c : Nat) (h' : Heap) (tk' : Nat), Fr h₀ L h' m → News h₀ L h' [(D, ({ cls := .type "tuple", data := .seq #[.int x t1, .int y t2, .int z t3] c } : Obj))] → Q (.ref D) { s with heap := h', toks := tk' }) →
      wpAny (model PW w) (ktrTop dp un gd cn cs L a ccd cl outer) (call (.ref f) vs) Q E s

theorem Con30.use {w : World} {f : Addr} {d : Nat} {vs : List Value} {x y z : Int} {mean : ExcName → Option Value} {mg mb : Str → Option Value} {dp un : Nat} {gd : Option (List Code)} {cn : Str} {cs : Scope} {a : Addr} {ccd : Value} {cl : List (Str × Addr)} {outer : List Env} {A₀ : Around} {base h₀ : Heap} {L : Addr} {m : Str → Option Value} {s : Shared} {Q E : Value → Shared → Prop}
    (C : Con30 w f d vs x y z) (B : Below A₀ base outer h₀) (F : Fr h₀ L s.heap m) (X : (Mine.hd.heap_39 w.params).In h₀) (T : Top Mine.hd.view_39 LO mean mg mb h₀) (hk : cs.kind = .function)
    (hd : dp + d < recursionLimit) (hu : un + 8 * d < cLine)
    (ret : ∀ (D : Addr) (t1 t2 t3 : Tok) (c : Nat) (h' : Heap) (tk' : Nat), Fr h₀ L h' m → News h₀ L h' [(D, ({ cls := .type "tuple", data := .seq #[.int x t1, .int y t2, .int z t3] c } : Obj))] → Q (.ref D) { s with heap := h', toks := tk' }) :
    wpAny (model PW w) (ktrTop dp un gd cn cs L a ccd cl outer) (call (.ref f) vs) Q E s :=
  C.out mean mg mb dp un gd cn cs a ccd cl outer A₀ base h₀ L m s Q E B F X T hk hd hu ret

def EveV (ev : Value) (b : Bool) : Prop := (ev = .none ∧ b = false) ∨ ev = .bool b
theorem truthy_eve {M : Model} {A : Around} {E : Value → Shared → Prop} {s : Shared} {ev : Value} {b : Bool} {Q : Bool → Shared → Prop} (h : EveV ev b) (hq : Q b s) : wpAny M A (truthy ev) Q E s := by
  rcases h with ⟨rfl, rfl⟩ | rfl
  · exact truthy_none hq
  · exact wpAny_truthy_bool hq
theorem cb_retI0 {h₀ h' : Heap} {L : Addr} {m : Str → Option Value} {s : Shared} {Q : Value → Shared → Prop} {x y : Int} {t : Tok} {tk' : Nat} (hret : ∀ (t : Tok) (h' : Heap) (tk' : Nat), Fr h₀ L h' m → News h₀ L h' [] → Q (.int x t) { s with heap := h', toks := tk' }) (e : y = x) (F : Fr h₀ L h' m) : Q (.int y t) { s with heap := h', toks := tk' } := by
  subst e
  exact hret t h' tk' F News.nil
theorem con30_end {h₀ h' : Heap} {L : Addr} {m : Str → Option Value} {s : Shared} {Q : Value → Shared → Prop} {x y z x' y' z' : Int} {D : Addr} {t1 t2 t3 : Tok} {c : Nat} {tk' : Nat} {news : List (Addr × Obj)}
    (ret : ∀ (D : Addr) (t1 t2 t3 : Tok) (c : Nat) (h' : Heap) (tk' : Nat), Fr h₀ L h' m → News h₀ L h' [(D, ({ cls := .type "tuple", data := .seq #[.int x t1, .int y t2, .int z t3] c } : Obj))] → Q (.ref D) { s with heap := h', toks := tk' })
    (F : Fr h₀ L h' m) (N : News h₀ L h' ((D, ({ cls := .type "tuple", data := .seq #[.int x' t1, .int y' t2, .int z' t3] c } : Obj)) :: news)) (e1 : x' = x) (e2 : y' = y) (e3 : z' = z) : Q (.ref D) { s with heap := h', toks := tk' } := by
  subst e1; subst e2; subst e3
  exact ret D t1 t2 t3 c h' tk' F (fun p hp => N p (by rw [List.mem_singleton.mp hp]; exact List.mem_cons_self))
theorem kd_of {h₀ h : Heap} {L : Addr} {m : Str → Option Value} (_F : Fr h₀ L h m) : KtsDicts [] h₀ := ktsDicts_nil
end Mine
end
section
open PySem PySem.W PyProof.Rows PySem.Calls PySem.Spec
set_option Elab.async false
set_option maxRecDepth 100000
set_option maxHeartbeats 4000000
namespace Mine
local macro_rules | `(tactic| walk_at "eval Call") => `(tactic| (k_here; (with_reducible show wpAny _ _ (eval (Expr.Call (Expr.Name _ _) _ [] _) _) _ _ _); k_dflt (refine Call_ ?_)))

def isleapF (y : Int) : Bool := decide (y % 4 = 0) && (!decide (y % 100 = 0) || decide (y % 400 = 0))
theorem c_isleap (w : World) (y : Int) (t : Tok) : Con w 21 1 [.int y t] (fun _ => .bool (isleapF y)) := by
  refine Con.mk ?_
  unfold PW LO
  k_fill
  intros
  rename_i hret
  refine wpAny_call ?_
  k_dflt cell_enter
  k_steps
  all_goals (refine cb_retB hret ?_ (by k_asm) (by k_asm))
  all_goals (unfold isleapF; law_clear; simp_all [fmodE, beqD])
theorem c_isleapB (w : World) (y : Int) (t : Tok) {b : Bool} (h : isleapF y = b) : Con w 21 1 [.int y t] (fun _ => .bool b) := by
  subst h
  exact c_isleap w y t

def midnightF (n : Int) : Int := if n > 0 then n else n + 1
theorem c_midnight (w : World) (n : Int) (t : Tok) : Con w 28 1 [.int n t] (fun t => .int (midnightF n) t) := by
  refine Con.mk ?_
  unfold PW LO
  intros
  rename_i hret
  refine wpAny_call ?_
  k_dflt cell_enter
  k_steps
  all_goals (refine cb_retI hret ?_ (by k_asm) (by k_asm))
  all_goals (unfold midnightF; split <;> omega)

theorem c_jwday (w : World) (n : Int) (t : Tok) : Con w 35 1 [.int n t] (fun t => .int (n % 7) t) := by
  refine Con.mk ?_
  unfold PW LO
  intros
  rename_i hret
  refine wpAny_call ?_
  k_dflt cell_enter
  k_steps
  all_goals (refine cb_retI hret ?_ (by k_asm) (by k_asm))
  all_goals (simp [fmodE])

local macro_rules | `(tactic| walk_at "call ref") => `(tactic| (k_here; k_dflt (refine' Con.use ?kC ?k1 ?k2 ?k3 ?k4 ?k5 ?kK ?kd ?ku ?_; (case kC => first | exact c_isleapB _ _ _ (by assumption) | exact c_isleap _ _ _ | exact c_midnight _ _ _ | exact c_jwday _ _ _); (case k1 => k_asm); (case k2 => k_asm); (case k3 => k_asm); (case k4 => k_asm); (case k5 => k_asm); (case kK => first | exact rfl | assumption); (case kd => ktr_room); (case ku => ktr_units); k_whole; intro t9 h9 tk9 F9 N9; (try dsimp only); (try k_fold))))

def dimF (y m : Int) : Int := if m = 2 then (if isleapF y then 29 else 28) else if m = 4 ∨ m = 6 ∨ m = 9 ∨ m = 11 then 30 else 31
theorem in_K {prog : Program} {w : World} {A : Around} {E : Value → Shared → Prop} {s : Shared} {K : Frag} {h₀ : Heap} {L t : Addr} {m : Str → Option Value} {l : List Value} {n : Nat} {ns : List Int} {x : Int} {u : Tok} {Q : Value → Shared → Prop} (F : Fr h₀ L s.heap m) (X : K.In h₀) (hl : K.lookup t = some ⟨.type "tuple", none, .seq l.toArray n, #[]⟩) (hi : IntsAre l ns)
    (h : Q (.bool (ns.any (· == x))) s) : wpAny (model prog w) A (compareOp .In (.int x u) (.ref t)) Q E s :=
  in_tuple_ints (tupK (X.keeps F.keep) hl) hi h
local macro_rules | `(tactic| walk_at "compareOp In int ref") => `(tactic| (k_here; k_dflt (refine' in_K ?k1 ?k2 ?k3 ?k4 ?_; (case k1 => k_asm); (case k2 => k_asm); (case k3 => k_is); (case k4 => repeat constructor); k_whole)))
local macro_rules | `(tactic| walk_at "ite") => `(tactic| (k_here; k_openite; (with_reducible show ite ((_ == _) = true) _ _); first | (refine ite_pos (beq_iff_eq.mpr (by first | assumption | omega)) ?_; walk_say "PRUNED eq") | (refine ite_neg (fun hc => (by first | (have hc' := beq_iff_eq.mp hc; contradiction) | (have hc' := beq_iff_eq.mp hc; omega))) ?_; walk_say "PRUNED eq")))

theorem c_legal0 (w : World) (y m d : Int) (t1 t2 t3 : Tok) (h0 : 0 < d) (h1 : (m = 2 ∧ isleapF y = true ∧ d ≤ 29) ∨ (m = 2 ∧ isleapF y = false ∧ d ≤ 28) ∨ ((m = 4 ∨ m = 6 ∨ m = 9 ∨ m = 11) ∧ d ≤ 30) ∨ (m ≠ 2 ∧ m ≠ 4 ∧ m ≠ 6 ∧ m ≠ 9 ∧ m ≠ 11 ∧ d ≤ 31)) : Con w 43 2 [.int y t1, .int m t2, .int d t3] (fun _ => .bool true) := by
  refine Con.mk ?_
  unfold PW LO
  intros
  rename_i hret
  refine wpAny_call ?_
  k_dflt cell_enter
  rcases h1 with ⟨rfl, h2, h3⟩ | ⟨rfl, h2, h3⟩ | ⟨h1, h2⟩ | ⟨h1, h2, h3, h4, h5, h6⟩
  · k_steps
    all_goals (refine cb_retB hret rfl (by k_asm) (by k_asm))
  · k_steps
    all_goals (refine cb_retB hret rfl (by k_asm) (by k_asm))
  · have h3 : m ≠ 2 := by omega
    have h4 : ([4, 6, 9, 11].any (· == m)) = true := by simp; omega
    k_steps
    all_goals (refine cb_retB hret rfl (by k_asm) (by k_asm))
  · have h4 : ([4, 6, 9, 11].any (· == m)) = false := by simp; omega
    k_steps
    all_goals (refine cb_retB hret rfl (by k_asm) (by k_asm))

def LegalD (y m d : Int) : Prop := 0 < d ∧ ((m = 2 ∧ isleapF y = true ∧ d ≤ 29) ∨ (m = 2 ∧ isleapF y = false ∧ d ≤ 28) ∨ ((m = 4 ∨ m = 6 ∨ m = 9 ∨ m = 11) ∧ d ≤ 30) ∨ (m ≠ 2 ∧ m ≠ 4 ∧ m ≠ 6 ∧ m ≠ 9 ∧ m ≠ 11 ∧ d ≤ 31))
theorem c_legal (w : World) (y m d : Int) (t1 t2 t3 : Tok) (h : LegalD y m d) : Con w 43 2 [.int y t1, .int m t2, .int d t3] (fun _ => .bool true) := c_legal0 w y m d t1 t2 t3 h.1 h.2
end Mine
end
section
open PySem PySem.W PyProof.Rows PySem.Calls PySem.Spec
set_option Elab.async false
set_option maxRecDepth 100000
set_option maxHeartbeats 4000000
namespace Mine
local macro_rules | `(tactic| walk_at "eval Call") => `(tactic| (k_here; (with_reducible show wpAny _ _ (eval (Expr.Call (Expr.Name _ _) _ [] _) _) _ _ _); k_dflt (refine Call_ ?_)))
local macro_rules | `(tactic| walk_at "ite") => `(tactic| (k_here; k_openite; (with_reducible show ite ((_ == _) = true) _ _); first | (refine ite_pos (beq_iff_eq.mpr (by first | assumption | omega)) ?_; walk_say "PRUNED eq") | (refine ite_neg (fun hc => (by first | (have hc' := beq_iff_eq.mp hc; contradiction) | (have hc' := beq_iff_eq.mp hc; omega))) ?_; walk_say "PRUNED eq")))
local macro_rules | `(tactic| walk_at "call ref") => `(tactic| (k_here; k_dflt (refine' Con.use ?kC ?k1 ?k2 ?k3 ?k4 ?k5 ?kK ?kd ?ku ?_; (case kC => first | exact c_isleapB _ _ _ (by assumption) | exact c_isleap _ _ _ | exact c_midnight _ _ _ | exact c_jwday _ _ _ | exact c_legal _ _ _ _ _ _ _ (by assumption)); (case k1 => k_asm); (case k2 => k_asm); (case k3 => k_asm); (case k4 => k_asm); (case k5 => k_asm); (case kK => first | exact rfl | assumption); (case kd => ktr_room); (case ku => ktr_units); k_whole; intro t9 h9 tk9 F9 N9; (try dsimp only); (try k_fold))))

def ladj (y m : Int) : Int := if m ≤ 2 then 0 else if isleapF y = true then -1 else -2
def toJdG (y m d : Int) : Int := 1721426 - 1 + 365 * (y - 1) + (y - 1) / 4 + -((y - 1) / 100) + (y - 1) / 400 + ((367 * m - 362) / 12 + ladj y m + d)
theorem c_tojd (w : World) (y m d : Int) (t1 t2 t3 : Tok) (h : LegalD y m d) : Con w 50 3 [.int y t1, .int m t2, .int d t3] (fun t => .int (toJdG y m d) t) := by
  refine Con.mk ?_
  unfold PW LO
  k_fill
  intros
  rename_i hret
  refine wpAny_call ?_
  k_dflt cell_enter
  rcases Int.lt_or_le 2 m with hm | hm
  · have hm' : ¬ m ≤ 2 := by omega
    cases hl : isleapF y
    · k_steps
      all_goals (refine cb_retI hret ?_ (by k_asm) (by k_asm))
      all_goals simp only [toJdG, ladj, if_neg hm', hl, fd4, fd100, fd400, fd12]
      all_goals simp only [Bool.false_eq_true, if_false, if_true, reduceIte]
    · k_steps
      all_goals (refine cb_retI hret ?_ (by k_asm) (by k_asm))
      all_goals simp only [toJdG, ladj, if_neg hm', hl, fd4, fd100, fd400, fd12]
      all_goals simp only [Bool.false_eq_true, if_false, if_true, reduceIte]
  · k_steps
    all_goals (refine cb_retI hret ?_ (by k_asm) (by k_asm))
    all_goals simp only [toJdG, ladj, if_pos hm, fd4, fd100, fd400, fd12]
end Mine
end
section
open PySem PySem.W PyProof.Rows PySem.Calls PySem.Spec
set_option Elab.async false
set_option maxRecDepth 100000
set_option maxHeartbeats 4000000
namespace Mine
theorem legal1 (y m : Int) : LegalD y m 1 := by
  refine ⟨by omega, ?_⟩
  by_cases h2 : m = 2
  · cases h : isleapF y
    · exact .inr (.inl ⟨h2, rfl, by omega⟩)
    · exact .inl ⟨h2, rfl, by omega⟩
  · omega
local macro_rules | `(tactic| walk_at "eval Call") => `(tactic| (k_here; (with_reducible show wpAny _ _ (eval (Expr.Call (Expr.Name _ _) _ [] _) _) _ _ _); k_dflt (refine Call_ ?_)))
local macro_rules | `(tactic| walk_at "ite") => `(tactic| (k_here; k_openite; (with_reducible show ite ((_ == _) = true) _ _); first | (refine ite_pos (beq_iff_eq.mpr (by first | assumption | omega)) ?_; walk_say "PRUNED eq") | (refine ite_neg (fun hc => (by first | (have hc' := beq_iff_eq.mp hc; contradiction) | (have hc' := beq_iff_eq.mp hc; omega))) ?_; walk_say "PRUNED eq")))
local macro_rules | `(tactic| walk_at "compareOp In int ref") => `(tactic| (k_here; k_dflt (refine' in_K ?k1 ?k2 ?k3 ?k4 ?_; (case k1 => k_asm); (case k2 => k_asm); (case k3 => k_is); (case k4 => repeat constructor); k_whole)))
local macro_rules | `(tactic| walk_at "eval Name") => `(tactic| (k_here; (with_reducible show wpAny _ _ (eval (Expr.Name _ _) (envOf _ _ _ _ _)) _ _ _); name_kind "local"; k_dflt (refine' ld ?F ?v ?_ ?a ?b ?c; (case a => exact rfl); (case b => exact ND.kind (by assumption) (by dsimp only; repeat (first | with_reducible exact mem_hd | with_reducible refine mem_tl ?_))); (case F => k_asm); (case v => (repeat (first | with_reducible exact lk_hit | with_reducible exact ll_hit | (with_reducible refine' lk_miss ?lkh ?_; (case lkh => decide +kernel)) | (with_reducible refine' ll_miss ?lkh ?_; (case lkh => decide +kernel))))); (case c => decide +kernel); k_whole)))
local macro_rules | `(tactic| walk_at "eval Name") => `(tactic| (k_here; (with_reducible show wpAny _ _ (eval (Expr.Name _ _) (envOf _ _ _ _ _)) _ _ _); name_kind "globalImplicit"; k_dflt (refine' name_K ?F ?X ?T ?e ?_ ?a ?b ?c; (case a => exact rfl); (case b => exact ND.kind (by assumption) (by dsimp only; repeat (first | with_reducible exact mem_hd | with_reducible refine mem_tl ?_))); (case F => k_asm); (case X => k_asm); (case T => k_asm); (case e => k_is); (case c => decide +kernel); k_whole)))
local macro_rules | `(tactic| walk_at "loadName") => `(tactic| (k_here; (with_reducible show wpAny _ _ (loadName (envOf _ _ _ _ _) _) _ _ _); k_dflt (refine' ldn ?F ?v ?_ ?a ?b; (case a => exact rfl); (case b => exact ND.kind (by assumption) (by dsimp only; repeat (first | with_reducible exact mem_hd | with_reducible refine mem_tl ?_))); (case F => k_asm); (case v => (repeat (first | with_reducible exact lk_hit | with_reducible exact ll_hit | (with_reducible refine' lk_miss ?lkh ?_; (case lkh => decide +kernel)) | (with_reducible refine' ll_miss ?lkh ?_; (case lkh => decide +kernel))))); k_whole)))
local macro_rules | `(tactic| walk_at "storeName") => `(tactic| (k_here; (with_reducible show wpAny _ _ (storeName (envOf _ _ _ _ _) _ _) _ _ _); k_dflt (refine' stN ?F ?N ?_ ?a ?b; (case F => k_asm); (case N => k_asm); (case a => exact rfl); (case b => exact ND.kind (by assumption) (by dsimp only; repeat (first | with_reducible exact mem_hd | with_reducible refine mem_tl ?_))); k_whole; intro h' F' N'; (try dsimp only); (try k_sweep))))
local macro_rules | `(tactic| walk_at "binaryOp Mult int int") => `(tactic| ((with_reducible refine' mul_int ?_ ?hm); k_dflt ((case hm => first | exact IntMulOk.of_right (by decide +kernel) | exact IntMulOk.of_left (by decide +kernel)); k_whole)))
local macro_rules | `(tactic| walk_at "call ref") => `(tactic| (k_here; k_dflt (refine' Con.use ?kC ?k1 ?k2 ?k3 ?k4 ?k5 ?kK ?kd ?ku ?_; (case kC => first | exact c_isleapB _ _ _ (by assumption) | exact c_isleap _ _ _ | exact c_midnight _ _ _ | exact c_jwday _ _ _ | exact c_legal _ _ _ _ _ _ _ (by assumption) | exact c_tojd _ _ _ _ _ _ _ (legal1 _ _)); (case k1 => k_asm); (case k2 => k_asm); (case k3 => k_asm); (case k4 => k_asm); (case k5 => k_asm); (case kK => first | exact rfl | assumption); (case kd => ktr_room); (case ku => ktr_units); k_whole; intro t9 h9 tk9 F9 N9; (try dsimp only); (try k_sweep); (try k_fold))))
local macro_rules | `(tactic| walk_at $s:str) => `(tactic| k_extra $s)

def fCent (n : Int) : Int := (n - 1721426) % 146097 / 36524
def fQuad (n : Int) : Int := (n - 1721426) % 146097 % 36524 / 1461
def fYidx (n : Int) : Int := (n - 1721426) % 146097 % 36524 % 1461 / 365
def fY0 (n : Int) : Int := (n - 1721426) / 146097 * 400 + fCent n * 100 + fQuad n * 4 + fYidx n
def yF (n : Int) : Int := if fCent n = 4 then fY0 n else if fYidx n = 4 then fY0 n else fY0 n + 1
def ydF (n : Int) : Int := n - toJdG (yF n) 1 1
def mAdj (n : Int) : Int := if ydF n < 58 + (if isleapF (yF n) = true then 1 else 0) then 0 else if isleapF (yF n) = true then 1 else 2
def mF (n : Int) : Int := ((ydF n + mAdj n) * 12 + 373) / 367
def dF (n : Int) : Int := n - toJdG (yF n) (mF n) 1 + 1
theorem c_fromjd (w : World) (n : Int) (t1 : Tok) : Con3 w 57 4 [.int n t1] (yF n) (mF n) (dF n) := by
  refine Con3.mk ?_
  unfold PW LO
  k_fill
  intros
  rename_i hret
  refine wpAny_call ?_
  k_dflt cell_enter
  (rename Fr _ _ _ _ => F1)
  have F2 : Fr _ _ _ (fun y => List.lookup y [(Str.ofString "jd", Value.int n t1)]) := F1
  clear F1
  refine with_nd (by decide +kernel) ?_
  intro hND
  k_with_none
  k_with "exec If" => ((fail_if_success (with_reducible rename JMark => hJ)); (with_reducible show wpAny _ _ (exec (Stmt.If (Expr.UnaryOp _ _ _) _ _ _) _) _ _ _); k_dflt (refine' if_join (Str.ofString "year") (yF n) ?F ?N ?_ ?_; (case F => k_asm); (case N => k_asm); rotate_left; intro t9 h9 tk9 F9 N9; (try dsimp only); (try k_sweep); (try k_fold); rotate_left; intro hJ; (try k_fold)))
  k_with "exec If" => ((fail_if_success (with_reducible rename JMark => hJ)); (with_reducible show wpAny _ _ (exec (Stmt.If (Expr.Compare _ _ _ _) _ _ _) _) _ _ _); k_dflt (refine' if_join (Str.ofString "leap_adj") (mAdj n) ?F ?N ?_ ?_; (case F => k_asm); (case N => k_asm); rotate_left; intro t9 h9 tk9 F9 N9; (try dsimp only); (try k_sweep); (try k_fold); rotate_left; intro hJ; (try k_fold)))
  k_steps
  k_with_none
  · refine joined_same ?_ (if_pos rfl) rfl (by k_asm) (by k_asm)
    law_clear
    simp only [fd146097, fm146097, fd36524, fm36524, fd1461, fm1461, fd365, fd4, fd100] at *
    unfold yF fY0 fCent fQuad fYidx
    (repeat' split) <;> first | rfl | contradiction
  · refine joined_same ?_ (if_pos rfl) rfl (by k_asm) (by k_asm)
    law_clear
    simp only [fd146097, fm146097, fd36524, fm36524, fd1461, fm1461, fd365, fd4, fd100] at *
    unfold yF fY0 fCent fQuad fYidx
    (repeat' split) <;> first | rfl | contradiction
  · refine joined_set ?_ rfl (by k_asm) (by k_asm)
    law_clear
    simp only [fd146097, fm146097, fd36524, fm36524, fd1461, fm1461, fd365, fd4, fd100] at *
    unfold yF fY0 fCent fQuad fYidx
    (repeat' split) <;> first | rfl | contradiction
  · refine joined_set ?_ rfl (by k_asm) (by k_asm)
    unfold mAdj ydF; rw [if_pos (by assumption)]
  · refine joined_set ?_ rfl (by k_asm) (by k_asm)
    unfold mAdj ydF; rw [if_neg (by assumption), if_pos (by assumption)]
  · refine joined_set ?_ rfl (by k_asm) (by k_asm)
    unfold mAdj ydF; rw [if_neg (by assumption), if_neg (by simp only [Bool.not_eq_true]; assumption)]
  · refine con3_end hret (by k_asm) (by k_asm) (by assumption) rfl ?_ ?_
    · simp only [fd367]; rfl
    · simp only [fd367]; rfl
end Mine
end
section
set_option maxRecDepth 100000
set_option maxHeartbeats 4000000
namespace Mine
theorem isleapF_iff (y : Int) : isleapF y = true ↔ (y % 4 = 0 ∧ (y % 100 ≠ 0 ∨ y % 400 = 0)) := by
  unfold isleapF; simp
def janF (y : Int) : Int := 1721426 + 365 * (y - 1) + (y - 1) / 4 - (y - 1) / 100 + (y - 1) / 400
theorem toJdG_jan (y : Int) : toJdG y 1 1 = janF y := by
  unfold toJdG ladj janF; simp; omega
/-- the parts of the Gregorian count -/
theorem parts (n : Int) : ∃ q c u x d : Int, n - 1721426 = 146097 * q + 36524 * c + 1461 * u + 365 * x + d ∧ (n - 1721426) / 146097 = q ∧ fCent n = c ∧ fQuad n = u ∧ fYidx n = x ∧ 0 ≤ c ∧ c ≤ 4 ∧ 0 ≤ u ∧ u ≤ 24 ∧ 0 ≤ x ∧ x ≤ 4 ∧ 0 ≤ d ∧ d ≤ 364 ∧ (c = 4 → u = 0 ∧ x = 0 ∧ d = 0) ∧ (x = 4 → d = 0 ∧ u ≤ 23) := by
  refine ⟨(n - 1721426) / 146097, fCent n, fQuad n, fYidx n, (n - 1721426) % 146097 % 36524 % 1461 % 365, ?_, rfl, rfl, rfl, rfl, ?_⟩
  · unfold fCent fQuad fYidx; omega
  · unfold fCent fQuad fYidx
    generalize n - 1721426 = N
    have h1 := Int.emod_nonneg N (b := 146097) (by decide)
    have h2 := Int.emod_lt_of_pos N (b := 146097) (by decide)
    generalize N % 146097 = r at *
    have e1 : r = 36524 * (r / 36524) + r % 36524 := by omega
    have h3 : 0 ≤ r % 36524 ∧ r % 36524 < 36524 := by omega
    generalize r % 36524 = s at *
    generalize r / 36524 = c at *
    have e2 : s = 1461 * (s / 1461) + s % 1461 := by omega
    have h4 : 0 ≤ s % 1461 ∧ s % 1461 < 1461 := by omega
    generalize s % 1461 = t at *
    generalize s / 1461 = u at *
    have e3 : t = 365 * (t / 365) + t % 365 := by omega
    have h5 : 0 ≤ t % 365 ∧ t % 365 < 365 := by omega
    generalize t % 365 = d at *
    generalize t / 365 = x at *
    omega
theorem ydF_bounds (n : Int) : 0 ≤ ydF n ∧ (ydF n ≤ 364 ∨ (ydF n = 365 ∧ isleapF (yF n) = true)) := by
  obtain ⟨q, c, u, x, d, hN, hq, hc, hu, hx, c0, c4, u0, u24, x0, x4, d0, d1, hc4, hx4⟩ := parts n
  unfold ydF
  rw [toJdG_jan]
  have hy : yF n = if c = 4 then 400 * q + 400 else if x = 4 then 400 * q + 100 * c + 4 * u + 4 else 400 * q + 100 * c + 4 * u + x + 1 := by
    unfold yF fY0
    rw [hq, hc, hu, hx]
    split
    · have := hc4 (by assumption); omega
    · split <;> omega
  rw [isleapF_iff, hy]
  unfold janF
  clear hy hq hc hu hx
  by_cases h4 : c = 4
  · rw [if_pos h4]
    have := hc4 h4
    omega
  · rw [if_neg h4]
    by_cases hx : x = 4
    · rw [if_pos hx]
      have h5 := hx4 hx
      have e1 : (400 * q + 100 * c + 4 * u + 4 - 1) / 4 = 100 * q + 25 * c + u := by omega
      have e2 : (400 * q + 100 * c + 4 * u + 4 - 1) / 100 = 4 * q + c := by omega
      have e3 : (400 * q + 100 * c + 4 * u + 4 - 1) / 400 = q := by omega
      rw [e1, e2, e3]
      have e4 : (400 * q + 100 * c + 4 * u + 4) % 4 = 0 := by omega
      have e5 : (400 * q + 100 * c + 4 * u + 4) % 100 ≠ 0 := by omega
      refine ⟨by omega, .inr ⟨by omega, e4, .inl e5⟩⟩
    · rw [if_neg hx]
      have e1 : (400 * q + 100 * c + 4 * u + x + 1 - 1) / 4 = 100 * q + 25 * c + u := by omega
      have e2 : (400 * q + 100 * c + 4 * u + x + 1 - 1) / 100 = 4 * q + c := by omega
      have e3 : (400 * q + 100 * c + 4 * u + x + 1 - 1) / 400 = q := by omega
      rw [e1, e2, e3]
      refine ⟨by omega, .inl (by omega)⟩
/-- the month's table, decided -/
def mTab (yd : Int) (lp : Bool) : Int := ((yd + (if yd < 58 + (if lp = true then 1 else 0) then 0 else if lp = true then 1 else 2)) * 12 + 373) / 367
def dTab (yd : Int) (lp : Bool) : Int := yd + 1 - ((367 * mTab yd lp - 362) / 12 + (if mTab yd lp ≤ 2 then 0 else if lp = true then -1 else -2))
def okTab (yd : Int) (lp : Bool) : Bool :=
  let m := mTab yd lp
  let d := dTab yd lp
  decide (1 ≤ m) && decide (m ≤ 12) && decide (1 ≤ d) && decide (d ≤ if m = 2 then (if lp = true then 29 else 28) else if m = 4 ∨ m = 6 ∨ m = 9 ∨ m = 11 then 30 else 31)
theorem okTab_all : ∀ k : Fin 366, (k.val < 365 → okTab (k.val : Int) false = true) ∧ okTab (k.val : Int) true = true := by decide +kernel
theorem okTab_of (n : Int) : okTab (ydF n) (isleapF (yF n)) = true := by
  obtain ⟨h0, h1⟩ := ydF_bounds n
  have hk : (ydF n).toNat < 366 := by omega
  have h := okTab_all ⟨(ydF n).toNat, hk⟩
  have e : ((ydF n).toNat : Int) = ydF n := by omega
  simp only [e] at h
  cases hl : isleapF (yF n)
  · refine h.1 ?_
    rcases h1 with h1 | ⟨_, h1⟩
    · omega
    · rw [hl] at h1; cases h1
  · exact h.2
theorem mF_tab (n : Int) : mF n = mTab (ydF n) (isleapF (yF n)) := rfl
theorem dF_tab (n : Int) : dF n = dTab (ydF n) (isleapF (yF n)) := by
  unfold dF dTab
  rw [← mF_tab]
  have e : toJdG (yF n) (mF n) 1 = toJdG (yF n) 1 1 - 1 + ((367 * mF n - 362) / 12 + (if mF n ≤ 2 then 0 else if isleapF (yF n) = true then -1 else -2) + 1) := by
    unfold toJdG ladj; simp <;> omega
  rw [e]; unfold ydF; omega
theorem legalF (n : Int) : LegalD (yF n) (mF n) (dF n) := by
  have h := okTab_of n
  unfold okTab at h
  simp only [Bool.and_eq_true, decide_eq_true_eq] at h
  rw [← mF_tab, ← dF_tab] at h
  obtain ⟨⟨⟨h1, h2⟩, h3⟩, h4⟩ := h
  refine ⟨by omega, ?_⟩
  by_cases m2 : mF n = 2
  · rw [if_pos m2] at h4
    cases hl : isleapF (yF n)
    · rw [hl] at h4; exact .inr (.inl ⟨m2, rfl, by simpa using h4⟩)
    · rw [hl] at h4; exact .inl ⟨m2, rfl, by simpa using h4⟩
  · rw [if_neg m2] at h4
    split at h4 <;> omega
end Mine
end
section
open PySem PySem.W PyProof.Rows PySem.Calls PySem.Spec
set_option Elab.async false
set_option maxRecDepth 100000
set_option maxHeartbeats 4000000
set_option linter.unusedSimpArgs false
namespace Mine
local macro_rules | `(tactic| walk_at "eval Call") => `(tactic| (k_here; (with_reducible show wpAny _ _ (eval (Expr.Call (Expr.Name _ _) _ [] _) _) _ _ _); k_dflt (refine Call_ ?_)))
local macro_rules | `(tactic| walk_at "ite") => `(tactic| (k_here; k_openite; (with_reducible show ite ((_ == _) = true) _ _); first | (refine ite_pos (beq_iff_eq.mpr (by first | assumption | omega)) ?_; walk_say "PRUNED eq") | (refine ite_neg (fun hc => (by first | (have hc' := beq_iff_eq.mp hc; contradiction) | (have hc' := beq_iff_eq.mp hc; omega))) ?_; walk_say "PRUNED eq")))
local macro_rules | `(tactic| walk_at "compareOp In int ref") => `(tactic| (k_here; k_dflt (refine' in_K ?k1 ?k2 ?k3 ?k4 ?_; (case k1 => k_asm); (case k2 => k_asm); (case k3 => k_is); (case k4 => repeat constructor); k_whole)))
local macro_rules | `(tactic| walk_at "eval Name") => `(tactic| (k_here; (with_reducible show wpAny _ _ (eval (Expr.Name _ _) (envOf _ _ _ _ _)) _ _ _); name_kind "local"; k_dflt (refine' ld ?F ?v ?_ ?a ?b ?c; (case a => exact rfl); (case b => exact ND.kind (by assumption) (by dsimp only; repeat (first | with_reducible exact mem_hd | with_reducible refine mem_tl ?_))); (case F => k_asm); (case v => (repeat (first | with_reducible exact lk_hit | with_reducible exact ll_hit | (with_reducible refine' lk_miss ?lkh ?_; (case lkh => decide +kernel)) | (with_reducible refine' ll_miss ?lkh ?_; (case lkh => decide +kernel))))); (case c => decide +kernel); k_whole)))
local macro_rules | `(tactic| walk_at "eval Name") => `(tactic| (k_here; (with_reducible show wpAny _ _ (eval (Expr.Name _ _) (envOf _ _ _ _ _)) _ _ _); name_kind "globalImplicit"; k_dflt (refine' name_K ?F ?X ?T ?e ?_ ?a ?b ?c; (case a => exact rfl); (case b => exact ND.kind (by assumption) (by dsimp only; repeat (first | with_reducible exact mem_hd | with_reducible refine mem_tl ?_))); (case F => k_asm); (case X => k_asm); (case T => k_asm); (case e => k_is); (case c => decide +kernel); k_whole)))
local macro_rules | `(tactic| walk_at "loadName") => `(tactic| (k_here; (with_reducible show wpAny _ _ (loadName (envOf _ _ _ _ _) _) _ _ _); k_dflt (refine' ldn ?F ?v ?_ ?a ?b; (case a => exact rfl); (case b => exact ND.kind (by assumption) (by dsimp only; repeat (first | with_reducible exact mem_hd | with_reducible refine mem_tl ?_))); (case F => k_asm); (case v => (repeat (first | with_reducible exact lk_hit | with_reducible exact ll_hit | (with_reducible refine' lk_miss ?lkh ?_; (case lkh => decide +kernel)) | (with_reducible refine' ll_miss ?lkh ?_; (case lkh => decide +kernel))))); k_whole)))
local macro_rules | `(tactic| walk_at "storeName") => `(tactic| (k_here; (with_reducible show wpAny _ _ (storeName (envOf _ _ _ _ _) _ _) _ _ _); k_dflt (refine' stN ?F ?N ?_ ?a ?b; (case F => k_asm); (case N => k_asm); (case a => exact rfl); (case b => exact ND.kind (by assumption) (by dsimp only; repeat (first | with_reducible exact mem_hd | with_reducible refine mem_tl ?_))); k_whole; intro h' F' N'; (try dsimp only); (try k_sweep))))
local macro_rules | `(tactic| walk_at "binaryOp Mult int int") => `(tactic| ((with_reducible refine' mul_int ?_ ?hm); k_dflt ((case hm => first | exact IntMulOk.of_right (by decide +kernel) | exact IntMulOk.of_left (by decide +kernel)); k_whole)))
local macro_rules | `(tactic| walk_at $s:str) => `(tactic| k_extra $s)
def lawJan (y : Int) : Int := 1721426 + 146097 * ((y - 1) / 400) + 365 * ((y - 1) % 400) + (y - 1) % 400 / 4 - (y - 1) % 400 / 100
theorem c_jan (w : World) (y : Int) (t1 : Tok) : Con w 267 1 [.int y t1] (fun t => .int (lawJan y) t) := by
  refine Con.mk ?_
  unfold PW LO
  k_fill
  intros
  rename_i hret
  refine wpAny_call ?_
  k_dflt cell_enter
  (rename Fr _ _ _ _ => F1)
  have F2 : Fr _ _ _ (fun nm9 => List.lookup nm9 [(Str.ofString "year", .int y t1)]) := F1
  clear F1
  refine with_nd (by decide +kernel) ?_
  intro hND
  k_steps
  all_goals (refine cb_retI hret ?_ (by k_asm) (by first | k_asm | exact cb_drop (by assumption) (fun p hp => List.mem_cons_of_mem _ hp)))
  all_goals (simp only [fd400, fm400, fd4, fd100]; rfl)
def longF (y : Int) : Bool := [3, 6, 8, 11, 14, 17, 19].any (· == (y - 1) % 19 + 1)
theorem c_long (w : World) (y : Int) (t1 : Tok) : Con w 248 1 [.int y t1] (fun _ => .bool (longF y)) := by
  refine Con.mk ?_
  unfold PW LO
  k_fill
  intros
  rename_i hret
  refine wpAny_call ?_
  k_dflt cell_enter
  (rename Fr _ _ _ _ => F1)
  have F2 : Fr _ _ _ (fun nm9 => List.lookup nm9 [(Str.ofString "year", .int y t1)]) := F1
  clear F1
  refine with_nd (by decide +kernel) ?_
  intro hND
  k_steps
  all_goals (refine cb_retB hret ?_ (by k_asm) (by k_asm))
  all_goals (simp only [fm19]; rfl)
end Mine
end
section
open PySem PySem.W PyProof.Rows PySem.Calls PySem.Spec
set_option Elab.async false
set_option maxRecDepth 100000
set_option maxHeartbeats 4000000
namespace Mine
open PyProof.Rows.LCg PyProof.Rows.LCt
section
variable {prog : Program} {w : World} {A : Around} {E : Value → Shared → Prop} {s : Shared} {h₀ : Heap} {L : Addr} {m : Str → Option Value} {env : Env}
theorem ListComp_K {ct elt iter : Expr} {x : Str} {px : Pos} {scope : Scope} {cl : List (Str × Addr)} {pos : Pos} {Q : Value → Shared → Prop} (_F₀ : Fr h₀ L s.heap m)
    (hclos : closureFor scope env = pure cl) (hcell : ∀ y ∈ scope.names, y.2 ≠ .cell) (hkind : scope.kind = .function)
    (hnames : ∀ y ∈ scope.names, y.2 = .local → scope.names.lookup y.1 = some .local) (hx : scope.names.lookup x = some .local)
    (h : wpAny (model prog w) A (eval iter env) (fun xv s₁ => ∃ ax its news, xv = .ref ax ∧ A.handled = none ∧ Fr h₀ L s₁.heap m ∧ News h₀ L s₁.heap news ∧ h₀.IsTuple ax its ∧ its.size ≤ sizeLine ∧
      ∀ s₂ : Shared, (∃ h, s₂ = { s₁ with heap := h }) → CompRestT prog w A h₀ L m env ct elt x scope cl s₂ (fun _ => True) (fun i v => its[i]? = some v) (FinE h₀ L m s₂ Q) its.size 0 [] news) E s)
    (hs : ∀ x, foldedSetIterable iter env x = pure x := by intro _; rfl) :
    wpAny (model prog w) A (eval (.ListComp elt [⟨.Name x px, iter, [ct], 0⟩] scope pos) env) Q E s := by
  rw [eval_ListComp]
  refine wpAny_comprehension_free (use := none) rfl hs hclos hkind hnames (wpAny_mono h (fun xv s₁ h₁ => ?_) fun _ _ e => e)
  obtain ⟨ax, its, news, rfl, hh, F, N, S, hsz, R⟩ := h₁
  have keepT : ∀ g : Heap, (∀ b o, h₀.get? b = some o → g.get? b = some o) → g.IsTuple ax its := fun g k => by
    obtain ⟨o, e, r⟩ := S
    exact ⟨o, k _ _ e, r⟩
  have hl := keepT _ F.keep
  have hlt : ax < s₁.heap.objs.size := by obtain ⟨_, e, _⟩ := hl; exact Heap.lt_size e
  refine wpAny_pyIter_tuple hl ?_
  have up : ∀ b o, s₁.heap.get? b = some o → (s₁.heap.push { cls := .type "tuple_iterator", data := .fields #[.ref ax, .int 0 0] }).get? b = some o := fun b o e => Heap.get?_push_of_some _ e
  refine block_T (S := fun _ => True) (Walks.tuple hh s₁.heap.objs.size ax (Nat.ne_of_lt hlt) its) hsz (fun i h st => by obtain ⟨o, e, _⟩ := st.1; exact ⟨o, e⟩)
    (fun i h h' o nw st e e' k _ _ => ⟨by obtain ⟨o', q, r⟩ := st.1; rw [e] at q; cases q; exact ⟨o, e', r⟩, keepT _ k⟩) hcell hkind hx ⟨⟨_, Heap.get?_push_size _ rfl, rfl, rfl⟩, keepT _ fun b o e => up b o (F.keep b o e)⟩ (fun b hb => ?_)
    (F.keeps up) (N.grown up) (Nat.ne_of_lt F.ns.lt) (next_is_new F) (fun p hp => Nat.ne_of_lt (Heap.lt_size (N p hp).1)) trivial (R _ ⟨_, rfl⟩) ?_
  · show b < (s₁.heap.push _).objs.size
    rw [Heap.size_push]
    rcases List.mem_cons.mp hb with rfl | hb
    · exact Nat.lt_succ_self _
    · rw [List.mem_singleton.mp hb]; exact Nat.lt_succ_of_lt hlt
  · intro D C h tk m' ys news' F' N' o1 hn hC₀ hD₀ hCL hDL hCD offC fin
    refine ⟨m', hn, fun h'' hs'' => fin D h'' tk (F'.change hs'' hCL hC₀) (fun p hp => ?_) o1⟩
    refine ⟨hs''.extBut _ _ ?_ (N' p hp).1, (N' p hp).2⟩
    rcases List.mem_cons.mp hp with rfl | hp
    · exact Ne.symm hCD
    · exact offC p hp

def leV (r : Int) : Value → Bool
  | .int n _ => decide (n ≤ r)
  | _ => false
def cntF (r : Int) : Int := (([3, 6, 8, 11, 14, 17, 19].filter (fun n => decide (n ≤ r))).length : Int)
theorem cnt_ints {vs : List Value} {ns : List Int} (r : Int) (h : IntsAre vs ns) : (vs.filter (leV r)).length = (ns.filter (fun n => decide (n ≤ r))).length := by
  induction h with
  | nil => rfl
  | cons n t h ih =>
    rename_i vs ns
    by_cases hn : n ≤ r
    · rw [List.filter_cons_of_pos (by simpa [leV] using hn), List.filter_cons_of_pos (by simpa using hn), List.length_cons, List.length_cons, ih]
    · rw [List.filter_cons_of_neg (by simpa [leV] using hn), List.filter_cons_of_neg (by simpa using hn), ih]
theorem rest_fold {ct elt : Expr} {x : Str} {scope : Scope} {cl : List (Str × Addr)} {news : List (Addr × Obj)} {Fin : List Value → List (Addr × Obj) → Prop} (vs : List Value) (p : Value → Bool)
    (turn : ∀ v ∈ vs, ∀ I oI C oC D m₂ h tk ys (E' : Value → Shared → Prop) (Q' : Bool → Shared → Prop), NsObj oC m₂ → m₂ x = some v → Fr h₀ L h m → News h₀ L h ((I, oI) :: (C, oC) :: (D, lst ys) :: news) →
      (∀ tk', Q' (p v) { s with heap := h, toks := tk' }) → wpAny (model prog w) A (isTrue ct (compEnvC scope cl C env) (eval ct (compEnvC scope cl C env))) Q' E' { s with heap := h, toks := tk })
    (elem : ∀ v ∈ vs, ∀ I oI C oC D m₂ h tk ys (E' : Value → Shared → Prop) (Q' : Value → Shared → Prop), NsObj oC m₂ → m₂ x = some v → Fr h₀ L h m → News h₀ L h ((I, oI) :: (C, oC) :: (D, lst ys) :: news) →
      (∀ tk', Q' v { s with heap := h, toks := tk' }) → wpAny (model prog w) A (eval elt (compEnvC scope cl C env)) Q' E' { s with heap := h, toks := tk })
    (fin : Fin (vs.filter p) news) : CompRestT prog w A h₀ L m env ct elt x scope cl s (fun _ => True) (fun i v => vs.toArray[i]? = some v) Fin vs.length 0 [] news := by
  have main : ∀ k i ys, i + k = vs.length → Fin (ys ++ (vs.drop i).filter p) news → CompRestT prog w A h₀ L m env ct elt x scope cl s (fun _ => True) (fun i v => vs.toArray[i]? = some v) Fin k i ys news := by
    intro k
    induction k with
    | zero =>
      intro i ys hi hf
      refine CompRestT.zero ?_
      rw [List.drop_eq_nil_of_le (by omega)] at hf
      simpa using hf
    | succ k ih =>
      intro i ys hi hf
      refine CompRestT.succ fun v I oI C oC D m₂ h tk E' hv hC hx F N off ne => ?_
      have hlt : i < vs.length := by omega
      have hv' : vs[i]? = some v := by simpa using hv
      have hmem : v ∈ vs := List.mem_of_getElem? hv'
      have hdrop : vs.drop i = v :: vs.drop (i + 1) := by
        rw [List.drop_eq_getElem_cons hlt]
        congr 1
        rw [List.getElem?_eq_getElem hlt] at hv'
        exact Option.some.inj hv'
      refine turn v hmem I oI C oC D m₂ h tk ys E' _ hC hx F N fun tk' => ?_
      cases hp : p v with
      | true =>
        rw [if_pos rfl]
        refine elem v hmem I oI C oC D m₂ h tk' ys E' _ hC hx F N fun tk'' => ?_
        refine ⟨h, tk'', news, rfl, F, N, off, trivial, ih (i + 1) (ys ++ [v]) (by omega) ?_⟩
        rw [hdrop, List.filter_cons_of_pos hp] at hf
        rw [List.append_assoc]
        exact hf
      | false =>
        rw [if_neg (by decide)]
        refine ⟨h, tk', news, rfl, F, N, off, trivial, ih (i + 1) ys (by omega) ?_⟩
        rw [hdrop, List.filter_cons_of_neg (by rw [hp]; decide)] at hf
        exact hf
  exact main _ 0 [] (by omega) (by simpa using fin)
end
theorem isTuple_K {K : Frag} {h : Heap} {a : Addr} {l : List Value} {n : Nat} {dd : Option Addr} {sl : Array (Option Value)} (X : K.In h) (hl : K.lookup a = some ⟨.type "tuple", dd, .seq l.toArray n, sl⟩) : h.IsTuple a l.toArray := ⟨_, X _ _ hl, rfl, _, rfl⟩
theorem ints_mem {vs : List Value} {ns : List Int} (h : IntsAre vs ns) : ∀ v ∈ vs, ∃ n t, v = .int n t := by
  induction h with
  | nil => intro v hv; cases hv
  | cons n t h ih =>
    intro v hv
    rcases List.mem_cons.mp hv with rfl | hv
    · exact ⟨n, t, rfl⟩
    · exact ih v hv
theorem cnt_size (r : Int) {vs : List Value} {ns : List Int} (h : IntsAre vs ns) : (((vs.filter (leV r)).toArray.size : Nat) : Int) = ((ns.filter (fun n => decide (n ≤ r))).length : Int) ∧ (ns.length < 2 ^ 62 → (((vs.filter (leV r)).toArray.size : Nat) : Int) < 2 ^ 63) := by
  have e : (vs.filter (leV r)).toArray.size = (ns.filter (fun n => decide (n ≤ r))).length := by rw [List.size_toArray, cnt_ints r h]
  have l := List.length_filter_le (fun n => decide (n ≤ r)) ns
  rw [e]
  refine ⟨rfl, fun hl => ?_⟩
  omega
theorem len_cnt {prog : Program} {w : World} {A : Around} {E : Value → Shared → Prop} {s : Shared} {h₀ h : Heap} {L D : Addr} {news : List (Addr × Obj)} {vs : List Value} {ns : List Int} {r : Int} {Q : Value → Shared → Prop} (N : News h₀ L h ((D, LCg.lst (vs.filter (leV r))) :: news)) (hh : s.heap = h) (hi : IntsAre vs ns) (hl : ns.length < 2 ^ 62) {k : Int} (hk : ((ns.filter (fun n => decide (n ≤ r))).length : Int) = k)
    (hq : Q (.int k (s.toks + 1)) { s with toks := s.toks + 1 + 1 }) : wpAny (model prog w) A (call (.builtin "len") [.ref D]) Q E s := by
  have c := cnt_size r hi
  subst hh
  refine PyProof.Rows.len_list (News.isList N (List.Mem.head _)) (c.2 hl) ?_
  rw [c.1, hk]
  exact hq
/-- a call of f upon vs over a WRITTEN ledger: it comes back with a value of R, the ledger kept -/
structure ConW (w : World) (f : Addr) (d : Nat) (vs : List Value) (R : Tok → Value) (news : List (Addr × Obj)) : Prop where
  out : ∀ (mean : ExcName → Option Value) (mg mb : Str → Option Value) (dp un : Nat) (gd : Option (List Code)) (cn : Str) (cs : Scope) (a : Addr) (ccd : Value) (cl : List (Str × Addr)) (outer : List Env) (A₀ : Around) (base h₀ : Heap) (L : Addr) (m : Str → Option Value) (s : Shared) (Q E : Value → Shared → Prop),
    Below A₀ base outer h₀ → Fr h₀ L s.heap m → (Mine.hd.heap_39 w.params).In h₀ → News h₀ L s.heap news → Top Mine.hd.view_39 LO mean mg mb h₀ → cs.kind = .function →
    dp + d < recursionLimit → un + 8 * d < cLine →
    (∀ (t : Tok) (h' : Heap) (tk' : Nat), Fr h₀ L h' m → News h₀ L h' news → Q (R t) { s with heap := h', toks := tk' }) →
      wpAny (model PW w) (ktrTop dp un gd cn cs L a ccd cl outer) (call (.ref f) vs) Q E s

theorem ConW.use {w : World} {f : Addr} {d : Nat} {vs : List Value} {R : Tok → Value} {mean : ExcName → Option Value} {mg mb : Str → Option Value} {dp un : Nat} {gd : Option (List Code)} {cn : Str} {cs : Scope} {a : Addr} {ccd : Value} {cl : List (Str × Addr)} {outer : List Env} {A₀ : Around} {base h₀ : Heap} {L : Addr} {m : Str → Option Value} {news : List (Addr × Obj)} {s : Shared} {Q E : Value → Shared → Prop}
    (C : ConW w f d vs R news) (B : Below A₀ base outer h₀) (F : Fr h₀ L s.heap m) (X : (Mine.hd.heap_39 w.params).In h₀) (N : News h₀ L s.heap news) (T : Top Mine.hd.view_39 LO mean mg mb h₀) (hk : cs.kind = .function)
    (hd : dp + d < recursionLimit) (hu : un + 8 * d < cLine)
    (ret : ∀ (t : Tok) (h' : Heap) (tk' : Nat), Fr h₀ L h' m → News h₀ L h' news → Q (R t) { s with heap := h', toks := tk' }) :
    wpAny (model PW w) (ktrTop dp un gd cn cs L a ccd cl outer) (call (.ref f) vs) Q E s :=
  C.out mean mg mb dp un gd cn cs a ccd cl outer A₀ base h₀ L m s Q E B F X N T hk hd hu ret
def JoinedV (h₀ : Heap) (L : Addr) (m : Str → Option Value) (news : List (Addr × Obj)) (s : Shared) (v : Int) (x : Value) (s' : Shared) : Prop :=
  ∃ t h' tk', x = .int v t ∧ s' = { s with heap := h', toks := tk' } ∧ Fr h₀ L h' m ∧ News h₀ L h' news
theorem joinedV_end {h₀ h' : Heap} {L : Addr} {m : Str → Option Value} {news : List (Addr × Obj)} {s s' : Shared} {v v' : Int} {t : Tok} {tk' : Nat} (e : v' = v) (hs : s' = { s with heap := h', toks := tk' }) (F : Fr h₀ L h' m) (N : News h₀ L h' news) : JoinedV h₀ L m news s v (.int v' t) s' := by
  subst e; exact ⟨t, h', tk', rfl, hs, F, N⟩
theorem ifexp_join {M : Model} {A : Around} {E : Value → Shared → Prop} {s : Shared} {h₀ : Heap} {L : Addr} {m : Str → Option Value} {news : List (Addr × Obj)} {env : Env} {ex : Expr} (v : Int) {Q : Value → Shared → Prop} (_F : Fr h₀ L s.heap m) (_N : News h₀ L s.heap news)
    (hc : JMark → wpAny M A (eval ex env) (JoinedV h₀ L m news s v) E s)
    (hk : ∀ (t : Tok) (h' : Heap) (tk' : Nat), Fr h₀ L h' m → News h₀ L h' news → Q (.int v t) { s with heap := h', toks := tk' }) : wpAny M A (eval ex env) Q E s := by
  refine wpAny_mono (hc ⟨⟩) (fun x s₂ hq => ?_) fun _ _ h => h
  obtain ⟨t, h', tk', rfl, rfl, F', N'⟩ := hq
  exact hk t h' tk' F' N'
end Mine
end
section
open PySem PySem.W PyProof.Rows PySem.Calls PySem.Spec
set_option Elab.async false
set_option maxRecDepth 100000
set_option maxHeartbeats 4000000
set_option linter.unusedSimpArgs false
namespace Mine
local macro_rules | `(tactic| walk_at "eval Call") => `(tactic| (k_here; (with_reducible show wpAny _ _ (eval (Expr.Call (Expr.Name _ _) _ [] _) _) _ _ _); k_dflt (refine Call_ ?_)))
local macro_rules | `(tactic| walk_at "ite") => `(tactic| (k_here; k_openite; (with_reducible show ite ((_ == _) = true) _ _); first | (refine ite_pos (beq_iff_eq.mpr (by first | assumption | omega)) ?_; walk_say "PRUNED eq") | (refine ite_neg (fun hc => (by first | (have hc' := beq_iff_eq.mp hc; contradiction) | (have hc' := beq_iff_eq.mp hc; omega))) ?_; walk_say "PRUNED eq")))
local macro_rules | `(tactic| walk_at "compareOp In int ref") => `(tactic| (k_here; k_dflt (refine' in_K ?k1 ?k2 ?k3 ?k4 ?_; (case k1 => k_asm); (case k2 => k_asm); (case k3 => k_is); (case k4 => repeat constructor); k_whole)))
local macro_rules | `(tactic| walk_at "eval Name") => `(tactic| (k_here; (with_reducible show wpAny _ _ (eval (Expr.Name _ _) (envOf _ _ _ _ _)) _ _ _); name_kind "local"; k_dflt (refine' ld ?F ?v ?_ ?a ?b ?c; (case a => exact rfl); (case b => exact ND.kind (by assumption) (by dsimp only; repeat (first | with_reducible exact mem_hd | with_reducible refine mem_tl ?_))); (case F => k_asm); (case v => (repeat (first | with_reducible exact lk_hit | with_reducible exact ll_hit | (with_reducible refine' lk_miss ?lkh ?_; (case lkh => decide +kernel)) | (with_reducible refine' ll_miss ?lkh ?_; (case lkh => decide +kernel))))); (case c => decide +kernel); k_whole)))
local macro_rules | `(tactic| walk_at "eval Name") => `(tactic| (k_here; (with_reducible show wpAny _ _ (eval (Expr.Name _ _) (envOf _ _ _ _ _)) _ _ _); name_kind "globalImplicit"; k_dflt (refine' name_K ?F ?X ?T ?e ?_ ?a ?b ?c; (case a => exact rfl); (case b => exact ND.kind (by assumption) (by dsimp only; repeat (first | with_reducible exact mem_hd | with_reducible refine mem_tl ?_))); (case F => k_asm); (case X => k_asm); (case T => k_asm); (case e => k_is); (case c => decide +kernel); k_whole)))
local macro_rules | `(tactic| walk_at "loadName") => `(tactic| (k_here; (with_reducible show wpAny _ _ (loadName (envOf _ _ _ _ _) _) _ _ _); k_dflt (refine' ldn ?F ?v ?_ ?a ?b; (case a => exact rfl); (case b => exact ND.kind (by assumption) (by dsimp only; repeat (first | with_reducible exact mem_hd | with_reducible refine mem_tl ?_))); (case F => k_asm); (case v => (repeat (first | with_reducible exact lk_hit | with_reducible exact ll_hit | (with_reducible refine' lk_miss ?lkh ?_; (case lkh => decide +kernel)) | (with_reducible refine' ll_miss ?lkh ?_; (case lkh => decide +kernel))))); k_whole)))
local macro_rules | `(tactic| walk_at "storeName") => `(tactic| (k_here; (with_reducible show wpAny _ _ (storeName (envOf _ _ _ _ _) _ _) _ _ _); k_dflt (refine' stN ?F ?N ?_ ?a ?b; (case F => k_asm); (case N => k_asm); (case a => exact rfl); (case b => exact ND.kind (by assumption) (by dsimp only; repeat (first | with_reducible exact mem_hd | with_reducible refine mem_tl ?_))); k_whole; intro h' F' N'; (try dsimp only); (try k_sweep))))
local macro_rules | `(tactic| walk_at "binaryOp Mult int int") => `(tactic| ((with_reducible refine' mul_int ?_ ?hm); k_dflt ((case hm => first | exact IntMulOk.of_right (by decide +kernel) | exact IntMulOk.of_left (by decide +kernel)); k_whole)))
local macro_rules | `(tactic| walk_at $s:str) => `(tactic| k_extra $s)
local macro_rules | `(tactic| walk_at "call ref") => `(tactic| (k_here; k_dflt (refine' Con.use ?kC ?k1 ?k2 ?k3 ?k4 ?k5 ?kK ?kd ?ku ?_; (case kC => first | exact c_long _ _ _); (case k1 => k_asm); (case k2 => k_asm); (case k3 => k_asm); (case k4 => k_asm); (case k5 => k_asm); (case kK => first | exact rfl | assumption); (case kd => ktr_room); (case ku => ktr_units); k_whole; intro t9 h9 tk9 F9 N9; (try dsimp only); (try k_sweep); (try k_fold))))
local macro_rules | `(tactic| k_all) => `(tactic| assumption)
theorem ne_of_lts {l : List (Addr × Obj)} {L : Addr} (h : ∀ p ∈ l, p.1 < L) : ∀ p ∈ l, p.1 ≠ L + 1 := fun p hp => Nat.ne_of_lt (Nat.lt_succ_of_lt (h p hp))
def tMol (y : Int) : Int := 31524 + 765433 * (235 * ((y - 1) / 19) + 12 * ((y - 1) % 19) + cntF ((y - 1) % 19))
def tD1 (y : Int) : Int := if 19440 ≤ tMol y % 25920 then tMol y / 25920 + 1 else if tMol y / 25920 % 7 = 2 ∧ 9924 ≤ tMol y % 25920 ∧ longF y = false then tMol y / 25920 + 1 else if tMol y / 25920 % 7 = 1 ∧ 16789 ≤ tMol y % 25920 ∧ longF (y - 1) = true then tMol y / 25920 + 1 else tMol y / 25920
def tD2 (y : Int) : Int := if [0, 3, 5].any (· == tD1 y % 7) = true then tD1 y + 1 else tD1 y
def tishF (y : Int) : Int := 347997 + tD2 y
theorem c_tish (w : World) (y : Int) (t1 : Tok) : Con w 253 3 [.int y t1] (fun t => .int (tishF y) t) := by
  refine Con.mk ?_
  unfold PW LO
  k_fill
  intros
  rename_i hret
  refine wpAny_call ?_
  k_dflt (refine' code_defC ?k1 ?k2 ?k3 ?k4 ?k5 ?kA ?kF ?kK ?k6 ?k7 ?k8 ?k9 ?kB ?kD ?_ ?c2 ?c3 ?c4; (case kA => exact rfl); (case kF => exact rfl); (case kK => assumption); (case k1 => k_asm); (case k2 => k_asm); (case k3 => k_asm); (case k4 => k_asm); (case k5 => k_asm); (case k6 => k_is); (case k7 => k_is); (case k8 => ktr_room); (case k9 => exact BindsTo.of_eq rfl); (case kB => exact rfl); (case kD => decide +kernel); (case c2 => exact rfl); (case c3 => exact rfl); (case c4 => exact rfl); k_whole; intro g' L' h' tk' cells' FG' F' N' Y' B' X' T' l1; k_cells Y'; (try simp only [List.cons_append, List.nil_append] at N'); (try dsimp only); (try k_lift B'); (try k_fold))
  have hne := ne_of_lts (by assumption)
  have hsz := ltN (Heap.lt_size (N' _ (List.Mem.head _)).1)
  dsimp only at hsz
  k_with_none
  repeat ((fail_if_success (with_reducible show wpAny _ _ (eval (Expr.ListComp _ _ _ _) _) _ _ _)); first | (k_unfold; (try dsimp only)) | walk1)
  k_dflt (refine ListComp_K (by k_asm) (by with_unfolding_all rfl) (by decide) (by rfl) (by decide) (by rfl) ?_)
  walk1
  (try dsimp only)
  (refine' ⟨209, _, _, rfl, rfl, ?lF, ?lN, ?lT, ?lz, ?_⟩)
  (case lF => k_asm)
  (case lN => k_asm)
  (case lT => (refine' isTuple_K ?lX ?le; (case lX => k_asm); (case le => k_is)))
  (case lz => exact Nat.le_of_ble_eq_true rfl)
  (rintro s₂ ⟨g9, rfl⟩)
  (refine' rest_fold _ (leV ((y - 1).fmod 19)) ?turn ?elem ?fin)
  case turn =>
    intro v hv I oI C oC D m₂ h tk ys E' Q' hC hx F N hq
    obtain ⟨n9, t9, rfl⟩ := ints_mem (ns := [3, 6, 8, 11, 14, 17, 19]) (by repeat constructor) v hv
    k_steps
    all_goals exact hq _
  case elem =>
    intro v hv I oI C oC D m₂ h tk ys E' Q' hC hx F N hq
    obtain ⟨n9, t9, rfl⟩ := ints_mem (ns := [3, 6, 8, 11, 14, 17, 19]) (by repeat constructor) v hv
    k_steps
    all_goals exact hq _
  case fin =>
    unfold LCg.FinE
    intro D9 h9 tk9 F9 N9 o9
    (try k_sweep)
    (try k_fold)
    k_steps
    k_dflt (refine' len_cnt (k := cntF ((y - 1).fmod 19)) N9 ?hh ?hi ?hl ?hk ?_; (case hh => exact rfl); (case hi => repeat constructor); (case hl => decide); (case hk => exact rfl))
    (try dsimp only)
    k_with "exec If" => ((fail_if_success (with_reducible rename JMark => hJ)); (with_reducible show wpAny _ _ (exec (Stmt.If (Expr.Compare _ [CmpOp.GtE] _ _) _ _ _) _) _ _ _); k_dflt (refine' if_join (Str.ofString "days") (tD1 y) ?F ?N ?_ ?_; (case F => k_asm); (case N => k_asm); rotate_left; intro t9 h9 tk9 F9 N9; (try dsimp only); (try k_sweep); (try k_fold); rotate_left; intro hJ; (try k_fold)))
    k_with "exec If" => ((fail_if_success (with_reducible rename JMark => hJ)); (with_reducible show wpAny _ _ (exec (Stmt.If (Expr.Compare _ [CmpOp.In] _ _) _ _ _) _) _ _ _); k_dflt (refine' if_join (Str.ofString "days") (tD2 y) ?F ?N ?_ ?_; (case F => k_asm); (case N => k_asm); rotate_left; intro t9 h9 tk9 F9 N9; (try dsimp only); (try k_sweep); (try k_fold); rotate_left; intro hJ; (try k_fold)))
    k_steps
    k_with_none
    all_goals first
      | (refine joined_set ?_ rfl (by k_asm) (by first | k_asm | (refine' cb_drop ?cbN ?cbS; (case cbN => assumption); (case cbS => kcj_all))))
      | (refine joined_same ?_ (by repeat (first | with_reducible exact lk_hit | (with_reducible refine' lk_miss ?lkh ?_; (case lkh => decide +kernel)))) rfl (by k_asm) (by first | k_asm | (refine' cb_drop ?cbN ?cbS; (case cbN => assumption); (case cbS => kcj_all))))
      | (refine cb_retI hret rfl (by k_asm) (by first | k_asm | (refine' cb_drop ?cbN ?cbS; (case cbN => assumption); (case cbS => kcj_all))))
    all_goals (clear hret; law_clear; (try simp only [fd19, fm19, fd25920, fm25920, fm7] at *))
    all_goals first
      | (show _ = tD1 y; unfold tD1 tMol; generalize (31524 + 765433 * (235 * ((y - 1) / 19) + 12 * ((y - 1) % 19) + cntF ((y - 1) % 19))) / 25920 = D at *; generalize (31524 + 765433 * (235 * ((y - 1) / 19) + 12 * ((y - 1) % 19) + cntF ((y - 1) % 19))) % 25920 = P at *; (repeat' split) <;> first | rfl | (exfalso; simp_all; done) | (exfalso; simp_all; omega))
      | (show _ = tD2 y; unfold tD2; (repeat' split) <;> first | rfl | (exfalso; simp_all; done))
end Mine
end
section
open PySem PySem.W PyProof.Rows PySem.Calls PySem.Spec
set_option Elab.async false
set_option maxRecDepth 100000
set_option maxHeartbeats 4000000
set_option linter.unusedSimpArgs false
namespace Mine
theorem item_tup0 {prog : Program} {w : World} {A : Around} {E : Value → Shared → Prop} {s : Shared} {value slice : Expr} {h₀ : Heap} {L a : Addr} {x : Value} {xs : List Value} {n : Nat} {u : Tok} {news : List (Addr × Obj)} {Q : Value → Shared → Prop} (N : News h₀ L s.heap news) (hm : (a, ({ cls := .type "tuple", data := .seq (x :: xs).toArray n } : Obj)) ∈ news) (h : Q x s)
    (hs : subscripted slice false (.ref a) (.int 0 u) = operate [.ref a, .int 0 u] (getItem (.ref a) (.int 0 u))) : wpAny (model prog w) A (subscriptTail value slice (.ref a) (.int 0 u)) Q E s :=
  item_tupleT (News.isTup N hm) (by decide) (by decide) (j := 0) (by simp [seqIndex?]) (by simp) h hs
local macro_rules | `(tactic| walk_at "eval Call") => `(tactic| (k_here; (with_reducible show wpAny _ _ (eval (Expr.Call (Expr.Name _ _) _ [] _) _) _ _ _); k_dflt (refine Call_ ?_)))
local macro_rules | `(tactic| walk_at "ite") => `(tactic| (k_here; k_openite; (with_reducible show ite ((_ == _) = true) _ _); first | (refine ite_pos (beq_iff_eq.mpr (by first | assumption | omega)) ?_; walk_say "PRUNED eq") | (refine ite_neg (fun hc => (by first | (have hc' := beq_iff_eq.mp hc; contradiction) | (have hc' := beq_iff_eq.mp hc; omega))) ?_; walk_say "PRUNED eq")))
local macro_rules | `(tactic| walk_at "compareOp In int ref") => `(tactic| (k_here; k_dflt (refine' in_K ?k1 ?k2 ?k3 ?k4 ?_; (case k1 => k_asm); (case k2 => k_asm); (case k3 => k_is); (case k4 => repeat constructor); k_whole)))
local macro_rules | `(tactic| walk_at "eval Name") => `(tactic| (k_here; (with_reducible show wpAny _ _ (eval (Expr.Name _ _) (envOf _ _ _ _ _)) _ _ _); name_kind "local"; k_dflt (refine' ld ?F ?v ?_ ?a ?b ?c; (case a => exact rfl); (case b => exact ND.kind (by assumption) (by dsimp only; repeat (first | with_reducible exact mem_hd | with_reducible refine mem_tl ?_))); (case F => k_asm); (case v => (repeat (first | with_reducible exact lk_hit | with_reducible exact ll_hit | (with_reducible refine' lk_miss ?lkh ?_; (case lkh => decide +kernel)) | (with_reducible refine' ll_miss ?lkh ?_; (case lkh => decide +kernel))))); (case c => decide +kernel); k_whole)))
local macro_rules | `(tactic| walk_at "eval Name") => `(tactic| (k_here; (with_reducible show wpAny _ _ (eval (Expr.Name _ _) (envOf _ _ _ _ _)) _ _ _); name_kind "globalImplicit"; k_dflt (refine' name_K ?F ?X ?T ?e ?_ ?a ?b ?c; (case a => exact rfl); (case b => exact ND.kind (by assumption) (by dsimp only; repeat (first | with_reducible exact mem_hd | with_reducible refine mem_tl ?_))); (case F => k_asm); (case X => k_asm); (case T => k_asm); (case e => k_is); (case c => decide +kernel); k_whole)))
local macro_rules | `(tactic| walk_at "loadName") => `(tactic| (k_here; (with_reducible show wpAny _ _ (loadName (envOf _ _ _ _ _) _) _ _ _); k_dflt (refine' ldn ?F ?v ?_ ?a ?b; (case a => exact rfl); (case b => exact ND.kind (by assumption) (by dsimp only; repeat (first | with_reducible exact mem_hd | with_reducible refine mem_tl ?_))); (case F => k_asm); (case v => (repeat (first | with_reducible exact lk_hit | with_reducible exact ll_hit | (with_reducible refine' lk_miss ?lkh ?_; (case lkh => decide +kernel)) | (with_reducible refine' ll_miss ?lkh ?_; (case lkh => decide +kernel))))); k_whole)))
local macro_rules | `(tactic| walk_at "storeName") => `(tactic| (k_here; (with_reducible show wpAny _ _ (storeName (envOf _ _ _ _ _) _ _) _ _ _); k_dflt (refine' stN ?F ?N ?_ ?a ?b; (case F => k_asm); (case N => k_asm); (case a => exact rfl); (case b => exact ND.kind (by assumption) (by dsimp only; repeat (first | with_reducible exact mem_hd | with_reducible refine mem_tl ?_))); k_whole; intro h' F' N'; (try dsimp only); (try k_sweep))))
local macro_rules | `(tactic| walk_at "binaryOp Mult int int") => `(tactic| ((with_reducible refine' mul_int ?_ ?hm); k_dflt ((case hm => first | exact IntMulOk.of_right (by decide +kernel) | exact IntMulOk.of_left (by decide +kernel)); k_whole)))
local macro_rules | `(tactic| walk_at "subscriptTail Name Constant ref int") => `(tactic| (k_here; (with_reducible show wpAny _ _ (subscriptTail _ _ (Value.ref _) (Value.int 0 _)) _ _ _); k_dflt (refine' item_tup0 ?N ?m ?_ ?hs; (case N => k_asm); (case m => (repeat (first | with_reducible exact mem_hd | with_reducible refine mem_tl ?_))); (case hs => with_unfolding_all rfl); k_whole)))
local macro_rules | `(tactic| walk_at $s:str) => `(tactic| k_extra $s)
local macro_rules | `(tactic| walk_at "subscriptTail") => `(tactic| (k_here; (with_reducible show wpAny _ _ (subscriptTail _ _ (Value.ref _) (Value.int _ _)) _ _ _); k_dflt (first | (refine' topTup_K ?F ?X ?l ?a ?b ?c ?d ?_; (case F => k_asm); (case X => k_asm); (case l => k_is); (case a => decide); (case b => decide); (case c => rfl); (case d => rfl)) | (refine' item_tupleT ?t ?a ?b ?c ?d ?_; (case t => exact News.isTup (by k_asm) (by k_mem)); (case a => decide); (case b => decide); (case c => rfl); (case d => rfl); k_whole))))
local macro_rules | `(tactic| walk_at "pyIter ref") => `(tactic| (k_here; (with_reducible show wpAny _ _ (pyIter (Value.ref _)) (fun it s₂ => TurnsAt _ _ _ _ _ _ _ _ _ it s₂) _ _); ktu_seq))
local macro_rules | `(tactic| walk_at "call ref") => `(tactic| (k_here; k_dflt (refine' Con.use ?kC ?k1 ?k2 ?k3 ?k4 ?k5 ?kK ?kd ?ku ?_; (case kC => first | exact c_tish _ _ _); (case k1 => k_asm); (case k2 => k_asm); (case k3 => k_asm); (case k4 => k_asm); (case k5 => k_asm); (case kK => first | exact rfl | assumption); (case kd => ktr_room); (case ku => ktr_units); k_whole; intro t9 h9 tk9 F9 N9; (try dsimp only); (try k_sweep); (try k_fold))))
def sizeF (y : Int) : Int := tishF (y + 1) - tishF y
def rowsF (y : Int) : List (Int × Int) := [(7, 30), (8, if sizeF y % 10 = 5 then 30 else 29), (9, if sizeF y % 10 = 3 then 29 else 30), (10, 29), (11, 30)] ++ ((if 360 < sizeF y then [(12, 30), (13, 29)] else [(12, 29)]) ++ [(1, 30), (2, 29), (3, 30), (4, 29), (5, 30)])
def goF (m d : Int) : List (Int × Int) → Int → Int
  | [], c => c + d - 1
  | r :: rs, c => if r.1 = m ∨ (m = 13 ∧ r.1 = 1) then c + d - 1 else goF m d rs (c + r.2)
def lawH (y m d : Int) : Int := goF m d (rowsF y) (tishF y)
theorem c_hdayL (w : World) (y m d : Int) (t1 t2 t3 : Tok) (d1 d2 d3 : Addr) (o1 o2 o3 : Obj) (hm : m = 7 ∨ m = 8 ∨ m = 9 ∨ m = 10 ∨ m = 11 ∨ m = 12 ∨ m = 13 ∨ m = 1 ∨ m = 2 ∨ m = 3 ∨ m = 4 ∨ m = 5) (hs : 360 < sizeF y) : ConW w 260 4 [.int y t1, .int m t2, .int d t3] (fun t => .int (lawH y m d) t) [(d1, o1), (d2, o2), (d3, o3)] := by
  refine ConW.mk ?_
  unfold PW LO
  k_fill
  intros
  rename_i hret
  refine wpAny_call ?_
  k_dflt cell_enter
  (rename Fr _ _ _ _ => F1)
  have F2 : Fr _ _ _ (fun nm9 => List.lookup nm9 [(Str.ofString "day", .int d t3), (Str.ofString "month", .int m t2), (Str.ofString "year", .int y t1)]) := F1
  clear F1
  refine with_nd (by decide +kernel) ?_
  intro hND
  have hs' : 360 < tishF (y + 1) - tishF y := hs
  k_with_none
  k_with "eval IfExp" => ((fail_if_success (with_reducible rename JMark => hJ)); (with_reducible show wpAny _ _ (eval (Expr.IfExp _ (Expr.Constant (Const.int 30) _ _) _ _) _) _ _ _); k_dflt (refine' ifexp_join (if sizeF y % 10 = 5 then 30 else 29) ?F ?N ?_ ?_; (case F => k_asm); (case N => k_asm); rotate_left; intro t9 h9 tk9 F9 N9; (try dsimp only); (try k_sweep); (try k_fold); rotate_left; intro hJ; (try k_fold)))
  k_with "eval IfExp" => ((fail_if_success (with_reducible rename JMark => hJ)); (with_reducible show wpAny _ _ (eval (Expr.IfExp _ (Expr.Constant (Const.int 29) _ _) _ _) _) _ _ _); k_dflt (refine' ifexp_join (if sizeF y % 10 = 3 then 29 else 30) ?F ?N ?_ ?_; (case F => k_asm); (case N => k_asm); rotate_left; intro t9 h9 tk9 F9 N9; (try dsimp only); (try k_sweep); (try k_fold); rotate_left; intro hJ; (try k_fold)))
  k_with "exec For" => ((rename Fr _ _ _ _ => lF'); (with_unfolding_all refine' For_turns lF' ?_; k_whole))
  k_steps
  k_with_none
  all_goals first
    | (refine joinedV_end ?_ rfl (by k_asm) (by k_asm))
    | (refine cb_retI hret ?_ (by k_asm) (by first | k_asm | (refine' cb_drop ?cbN ?cbS; (case cbN => assumption); (case cbS => kcj_all))))
  all_goals (clear hret; law_clear; (try simp only [fm10] at *))
  all_goals first
    | (unfold sizeF; split <;> first | rfl | (exfalso; contradiction))
    | (show _ = lawH y m d; subst m; unfold lawH rowsF; rw [if_pos hs]; first | rfl | (simp [goF]; done) | (simp [goF]; omega))
    | (rcases hm with h | h | h | h | h | h | h | h | h | h | h | h <;> subst h <;> first | contradiction | (unfold lawH rowsF; rw [if_pos hs]; first | rfl | (simp [goF]; done) | (simp [goF]; omega)))
theorem c_hdayC (w : World) (y m d : Int) (t1 t2 t3 : Tok) (d1 d2 d3 : Addr) (o1 o2 o3 : Obj) (hm : m = 7 ∨ m = 8 ∨ m = 9 ∨ m = 10 ∨ m = 11 ∨ m = 12 ∨ m = 13 ∨ m = 1 ∨ m = 2 ∨ m = 3 ∨ m = 4 ∨ m = 5) (hs : ¬ 360 < sizeF y) : ConW w 260 4 [.int y t1, .int m t2, .int d t3] (fun t => .int (lawH y m d) t) [(d1, o1), (d2, o2), (d3, o3)] := by
  refine ConW.mk ?_
  unfold PW LO
  k_fill
  intros
  rename_i hret
  refine wpAny_call ?_
  k_dflt cell_enter
  (rename Fr _ _ _ _ => F1)
  have F2 : Fr _ _ _ (fun nm9 => List.lookup nm9 [(Str.ofString "day", .int d t3), (Str.ofString "month", .int m t2), (Str.ofString "year", .int y t1)]) := F1
  clear F1
  refine with_nd (by decide +kernel) ?_
  intro hND
  have hs' : ¬ 360 < tishF (y + 1) - tishF y := hs
  k_with_none
  k_with "eval IfExp" => ((fail_if_success (with_reducible rename JMark => hJ)); (with_reducible show wpAny _ _ (eval (Expr.IfExp _ (Expr.Constant (Const.int 30) _ _) _ _) _) _ _ _); k_dflt (refine' ifexp_join (if sizeF y % 10 = 5 then 30 else 29) ?F ?N ?_ ?_; (case F => k_asm); (case N => k_asm); rotate_left; intro t9 h9 tk9 F9 N9; (try dsimp only); (try k_sweep); (try k_fold); rotate_left; intro hJ; (try k_fold)))
  k_with "eval IfExp" => ((fail_if_success (with_reducible rename JMark => hJ)); (with_reducible show wpAny _ _ (eval (Expr.IfExp _ (Expr.Constant (Const.int 29) _ _) _ _) _) _ _ _); k_dflt (refine' ifexp_join (if sizeF y % 10 = 3 then 29 else 30) ?F ?N ?_ ?_; (case F => k_asm); (case N => k_asm); rotate_left; intro t9 h9 tk9 F9 N9; (try dsimp only); (try k_sweep); (try k_fold); rotate_left; intro hJ; (try k_fold)))
  k_with "exec For" => ((rename Fr _ _ _ _ => lF'); (with_unfolding_all refine' For_turns lF' ?_; k_whole))
  k_steps
  k_with_none
  all_goals first
    | (refine joinedV_end ?_ rfl (by k_asm) (by k_asm))
    | (refine cb_retI hret ?_ (by k_asm) (by first | k_asm | (refine' cb_drop ?cbN ?cbS; (case cbN => assumption); (case cbS => kcj_all))))
  all_goals (clear hret; law_clear; (try simp only [fm10] at *))
  all_goals first
    | (unfold sizeF; split <;> first | rfl | (exfalso; contradiction))
    | (show _ = lawH y m d; subst m; unfold lawH rowsF; rw [if_neg hs]; first | rfl | (simp [goF]; done) | (simp [goF]; omega))
    | (rcases hm with h | h | h | h | h | h | h | h | h | h | h | h <;> subst h <;> first | contradiction | (unfold lawH rowsF; rw [if_neg hs]; first | rfl | (simp [goF]; done) | (simp [goF]; omega)))
end Mine
end
section
open PySem PySem.W PyProof.Rows PySem.Calls PySem.Spec
set_option Elab.async false
set_option maxRecDepth 100000
set_option maxHeartbeats 4000000
set_option linter.unusedSimpArgs false
namespace Mine
local macro_rules | `(tactic| walk_at "eval Call") => `(tactic| (k_here; (with_reducible show wpAny _ _ (eval (Expr.Call (Expr.Name _ _) _ [] _) _) _ _ _); k_dflt (refine Call_ ?_)))
local macro_rules | `(tactic| walk_at "ite") => `(tactic| (k_here; k_openite; (with_reducible show ite ((_ == _) = true) _ _); first | (refine ite_pos (beq_iff_eq.mpr (by first | assumption | omega)) ?_; walk_say "PRUNED eq") | (refine ite_neg (fun hc => (by first | (have hc' := beq_iff_eq.mp hc; contradiction) | (have hc' := beq_iff_eq.mp hc; omega))) ?_; walk_say "PRUNED eq")))
local macro_rules | `(tactic| walk_at "compareOp In int ref") => `(tactic| (k_here; k_dflt (refine' in_K ?k1 ?k2 ?k3 ?k4 ?_; (case k1 => k_asm); (case k2 => k_asm); (case k3 => k_is); (case k4 => repeat constructor); k_whole)))
local macro_rules | `(tactic| walk_at "eval Name") => `(tactic| (k_here; (with_reducible show wpAny _ _ (eval (Expr.Name _ _) (envOf _ _ _ _ _)) _ _ _); name_kind "local"; k_dflt (refine' ld ?F ?v ?_ ?a ?b ?c; (case a => exact rfl); (case b => exact ND.kind (by assumption) (by dsimp only; repeat (first | with_reducible exact mem_hd | with_reducible refine mem_tl ?_))); (case F => k_asm); (case v => (repeat (first | with_reducible exact lk_hit | with_reducible exact ll_hit | (with_reducible refine' lk_miss ?lkh ?_; (case lkh => decide +kernel)) | (with_reducible refine' ll_miss ?lkh ?_; (case lkh => decide +kernel))))); (case c => decide +kernel); k_whole)))
local macro_rules | `(tactic| walk_at "eval Name") => `(tactic| (k_here; (with_reducible show wpAny _ _ (eval (Expr.Name _ _) (envOf _ _ _ _ _)) _ _ _); name_kind "globalImplicit"; k_dflt (refine' name_K ?F ?X ?T ?e ?_ ?a ?b ?c; (case a => exact rfl); (case b => exact ND.kind (by assumption) (by dsimp only; repeat (first | with_reducible exact mem_hd | with_reducible refine mem_tl ?_))); (case F => k_asm); (case X => k_asm); (case T => k_asm); (case e => k_is); (case c => decide +kernel); k_whole)))
local macro_rules | `(tactic| walk_at "loadName") => `(tactic| (k_here; (with_reducible show wpAny _ _ (loadName (envOf _ _ _ _ _) _) _ _ _); k_dflt (refine' ldn ?F ?v ?_ ?a ?b; (case a => exact rfl); (case b => exact ND.kind (by assumption) (by dsimp only; repeat (first | with_reducible exact mem_hd | with_reducible refine mem_tl ?_))); (case F => k_asm); (case v => (repeat (first | with_reducible exact lk_hit | with_reducible exact ll_hit | (with_reducible refine' lk_miss ?lkh ?_; (case lkh => decide +kernel)) | (with_reducible refine' ll_miss ?lkh ?_; (case lkh => decide +kernel))))); k_whole)))
local macro_rules | `(tactic| walk_at "storeName") => `(tactic| (k_here; (with_reducible show wpAny _ _ (storeName (envOf _ _ _ _ _) _ _) _ _ _); k_dflt (refine' stN ?F ?N ?_ ?a ?b; (case F => k_asm); (case N => k_asm); (case a => exact rfl); (case b => exact ND.kind (by assumption) (by dsimp only; repeat (first | with_reducible exact mem_hd | with_reducible refine mem_tl ?_))); k_whole; intro h' F' N'; (try dsimp only); (try k_sweep))))
local macro_rules | `(tactic| walk_at "binaryOp Mult int int") => `(tactic| ((with_reducible refine' mul_int ?_ ?hm); k_dflt ((case hm => first | exact IntMulOk.of_right (by decide +kernel) | exact IntMulOk.of_left (by decide +kernel)); k_whole)))
local macro_rules | `(tactic| walk_at $s:str) => `(tactic| k_extra $s)
local macro_rules | `(tactic| walk_at "call ref") => `(tactic| (k_here; k_dflt (refine' Con.use ?kC ?k1 ?k2 ?k3 ?k4 ?k5 ?kK ?kd ?ku ?_; (case kC => first | exact c_jan _ _ _); (case k1 => k_asm); (case k2 => k_asm); (case k3 => k_asm); (case k4 => k_asm); (case k5 => k_asm); (case kK => first | exact rfl | assumption); (case kd => ktr_room); (case ku => ktr_units); k_whole; intro t9 h9 tk9 F9 N9; (try dsimp only); (try k_sweep); (try k_fold))))
theorem lawJan_eq (y : Int) : lawJan y = janF y := by unfold lawJan janF; omega
theorem jan_mono {a b : Int} (h : a ≤ b) : janF a + 365 * (b - a) ≤ janF b := by unfold janF; omega
theorem jan_up (y : Int) : janF y + 365 ≤ janF (y + 1) ∧ janF (y + 1) ≤ janF y + 366 := by unfold janF; omega
theorem yF_bounds (n : Int) : janF (yF n) ≤ n ∧ n < janF (yF n + 1) := by
  obtain ⟨h0, h1⟩ := ydF_bounds n
  have e : ydF n = n - janF (yF n) := by unfold ydF; rw [toJdG_jan]
  rw [e] at h0 h1
  refine ⟨by omega, ?_⟩
  have := jan_up (yF n)
  rcases h1 with h1 | ⟨h1, hl⟩
  · omega
  · rw [isleapF_iff] at hl
    have : janF (yF n + 1) = janF (yF n) + 366 := by
      generalize yF n = z at *
      unfold janF
      omega
    omega
theorem yF_uniq {n y : Int} (h1 : janF y ≤ n) (h2 : n < janF (y + 1)) : y = yF n := by
  obtain ⟨a, b⟩ := yF_bounds n
  rcases Int.lt_trichotomy y (yF n) with h | h | h
  · have := jan_mono (show y + 1 ≤ yF n by omega); omega
  · exact h
  · have := jan_mono (show yF n + 1 ≤ y by omega); omega
def estF (n : Int) : Int := (n - 1721426) * 400 / 146097 + 1
theorem est_lo (n : Int) : janF (estF n - 1) ≤ n := by unfold janF estF; omega
theorem est_hi (n : Int) : n < janF (estF n + 2) := by unfold janF estF; omega

def WSt {σ : Type} (h₀ : Heap) (L : Addr) (news : List (Addr × Obj)) (s : Shared) (fr : σ → Str → Option Value) (P : σ → Prop) (μ : σ → Nat) (c : σ) (fl : Flow) (s₃ : Shared) : Prop :=
  fl = .next ∧ ∃ c' h' tk', s₃ = { s with heap := h', toks := tk' } ∧ Fr h₀ L h' (fr c') ∧ News h₀ L h' news ∧ P c' ∧ μ c' < μ c
theorem while_st {σ : Type} {prog : Program} {w : World} {A : Around} {E : Value → Shared → Prop} {Q : Flow → Shared → Prop} {s : Shared} {env : Env} {h₀ : Heap} {L : Addr} {test : Expr} {body : List Stmt} {pos : Pos} {news : List (Addr × Obj)} (fr : σ → Str → Option Value) (P : σ → Prop) (μ : σ → Nat) (c₀ : σ) {m : Str → Option Value} (F : Fr h₀ L s.heap m) (hm : m = fr c₀) (N : News h₀ L s.heap news) (hp : P c₀)
    (turn : ∀ c h tk, P c → Fr h₀ L h (fr c) → News h₀ L h news →
      wpAny (model prog w) A (isTrue test env (eval test env)) (fun b s₂ =>
        if b = true then wpAny (model prog w) A (execs body env) (WSt h₀ L news s fr P μ c) E s₂ else Q .next s₂) E { s with heap := h, toks := tk })
    (hE : PassesOwn (model prog w) A env E := by passes_own) :
    wpAny (model prog w) A (exec (.While test body [] pos) env) Q E s := by
  subst hm
  refine While_inv2 (fun n m nx => nx = news ∧ ∃ c, m = fr c ∧ P c ∧ μ c = n) F N ⟨rfl, c₀, rfl, hp, rfl⟩ ?_ hE
  rintro n m₁ nx h tk F₁ N₁ ⟨rfl, c, rfl, hc, rfl⟩
  refine wpAny_mono (turn c h tk hc F₁ N₁) (fun b s₂ p => ?_) fun _ _ x => x
  cases b with
  | false => simpa using p
  | true =>
    simp only [if_true] at p ⊢
    refine wpAny_mono p (fun f s₃ q => ?_) fun _ _ x => x
    obtain ⟨rfl, c', h', tk', rfl, F', N', hp', hm'⟩ := q
    exact ⟨h', tk', _, _, _, rfl, F', N', hm', rfl, c', rfl, hp', rfl⟩
def frY (m : Str → Option Value) (c : Int × Tok) (y : Str) : Option Value := if y = Str.ofString "year" then some (.int c.1 c.2) else m y
theorem frY_start (m : Str → Option Value) (k : Int) (t : Tok) : (fun y => if y = Str.ofString "year" then some (Value.int k t) else m y) = frY m (k, t) := rfl
theorem frY_end {h₀ h' : Heap} {L : Addr} {m : Str → Option Value} {news : List (Addr × Obj)} {s s' : Shared} {P : Int × Tok → Prop} {μ : Int × Tok → Nat} {c : Int × Tok} {k : Int} {t : Tok} {tk' : Nat} (hs : s' = { s with heap := h', toks := tk' }) (F : Fr h₀ L h' (fun y => if y = Str.ofString "year" then some (.int k t) else frY m c y)) (N : News h₀ L h' news) (hp : P (k, t)) (hm : μ (k, t) < μ c) : WSt h₀ L news s (frY m) P μ c .next s' := by
  refine ⟨rfl, (k, t), h', tk', hs, ?_, N, hp, hm⟩
  have : frY m (k, t) = (fun y => if y = Str.ofString "year" then some (.int k t) else frY m c y) := by
    funext y
    unfold frY
    by_cases h : y = Str.ofString "year"
    · rw [if_pos h, if_pos h]
    · rw [if_neg h, if_neg h, if_neg h]
  rw [this]; exact F
theorem frY_hit {m : Str → Option Value} {c : Int × Tok} : frY m c (Str.ofString "year") = some (.int c.1 c.2) := if_pos rfl
theorem frY_miss {m : Str → Option Value} {c : Int × Tok} {x : Str} {o : Option Value} (h : x ≠ Str.ofString "year") (hr : m x = o) : frY m c x = o := (if_neg h).trans hr
theorem c_yearof (w : World) (n : Int) (t1 : Tok) : Con w 274 2 [.int n t1] (fun t => .int (yF n) t) := by
  refine Con.mk ?_
  unfold PW LO
  k_fill
  intros
  rename_i hret
  refine wpAny_call ?_
  k_dflt cell_enter
  (rename Fr _ _ _ _ => F1)
  have F2 : Fr _ _ _ (fun nm9 => List.lookup nm9 [(Str.ofString "number", .int n t1)]) := F1
  clear F1
  refine with_nd (by decide +kernel) ?_
  intro hND
  k_with_none
  repeat ((fail_if_success (with_reducible show wpAny _ _ (exec (Stmt.While _ _ _ _) _) _ _ _)); first | (k_unfold; (try dsimp only)) | walk1)
  (rename Fr _ _ _ _ => F3)
  refine while_st (frY _) (fun c => estF n - 1 ≤ c.1 ∧ c.1 ≤ estF n) (fun c => (c.1 + 1 - estF n + 1).toNat) (_, _) F3 (frY_start _ _ _) (by k_asm) ?_ ?_
  · simp only [fd146097]; unfold estF; omega
  rintro ⟨k, tq⟩ h9 tk9 ⟨hp1, hp2⟩ F9 N9
  (try dsimp only at hp1 hp2)
  k_with "exec While" => (k_dflt ((rename Fr _ _ _ _ => F3); (refine while_st (frY _) (fun c => janF c.1 ≤ n ∧ c.1 ≤ estF n + 1) (fun c => (estF n + 2 - c.1).toNat) (_, _) F3 rfl (by k_asm) (by (have hx := lawJan_eq k; (try dsimp only at *); exact ⟨by omega, by omega⟩)) ?_); rintro ⟨k2, tq2⟩ h10 tk10 ⟨hq1, hq2⟩ F10 N10; (try dsimp only at hq1 hq2); (try k_fold)))
  k_steps
  k_with_none
  · have hx := lawJan_eq k
    have hy := est_lo n
    have hk : k ≠ estF n - 1 := fun hk => by rw [← hk] at hy; omega
    refine frY_end rfl (by k_asm) (by k_asm) ?_ ?_
    · dsimp only; constructor <;> omega
    · dsimp only; omega
  · have hx := lawJan_eq (k2 + 1)
    have hy := est_hi n
    have hk : k2 + 1 < estF n + 2 := by
      rcases Int.lt_or_le (k2 + 1) (estF n + 2) with h | h
      · exact h
      · have := jan_mono h; omega
    refine frY_end rfl (by k_asm) (by k_asm) ?_ ?_
    · dsimp only; constructor <;> omega
    · dsimp only; omega
  · have hx := lawJan_eq (k2 + 1)
    exact cb_retI hret (yF_uniq (by omega) (by omega)) (by k_asm) (by k_asm)
end Mine
end
section
open PySem PySem.W PyProof.Rows PySem.Calls PySem.Spec
set_option Elab.async false
set_option maxRecDepth 100000
set_option maxHeartbeats 4000000
set_option linter.unusedSimpArgs false
namespace Mine
def szs (k : Int) : Int := ([31, 28, 31, 30, 31, 30, 31, 31, 30, 31, 30, 31] : List Int).getD k.toNat 0
theorem item_sizes {prog : Program} {w : World} {A : Around} {E : Value → Shared → Prop} {s : Shared} {value slice : Expr} {K : Frag} {h₀ : Heap} {L : Addr} {m : Str → Option Value} {k : Int} {u : Tok} {n : Nat} {t0 t1 t2 t3 t4 t5 t6 t7 t8 t9 t10 t11 : Tok} {a : Addr} {Q : Value → Shared → Prop} (F : Fr h₀ L s.heap m) (X : K.In h₀)
    (hl : K.lookup a = some ⟨.type "tuple", none, .seq [.int 31 t0, .int 28 t1, .int 31 t2, .int 30 t3, .int 31 t4, .int 30 t5, .int 31 t6, .int 31 t7, .int 30 t8, .int 31 t9, .int 30 t10, .int 31 t11].toArray n, #[]⟩) (h0 : 0 ≤ k) (h1 : k < 12) (hq : ∀ t, Q (.int (szs k) t) s)
    (hs : ∀ k : Int, subscripted slice false (.ref a) (.int k u) = operate [.ref a, .int k u] (getItem (.ref a) (.int k u))) : wpAny (model prog w) A (subscriptTail value slice (.ref a) (.int k u)) Q E s := by
  have T := tupK (X.keeps F.keep) hl
  have hk : k = 0 ∨ k = 1 ∨ k = 2 ∨ k = 3 ∨ k = 4 ∨ k = 5 ∨ k = 6 ∨ k = 7 ∨ k = 8 ∨ k = 9 ∨ k = 10 ∨ k = 11 := by omega
  rcases hk with rfl | rfl | rfl | rfl | rfl | rfl | rfl | rfl | rfl | rfl | rfl | rfl
  all_goals exact item_tupleT T (by decide) (by decide) rfl rfl (hq _) (hs _)
local macro_rules | `(tactic| walk_at "eval Call") => `(tactic| (k_here; (with_reducible show wpAny _ _ (eval (Expr.Call (Expr.Name _ _) _ [] _) _) _ _ _); k_dflt (refine Call_ ?_)))
local macro_rules | `(tactic| walk_at "ite") => `(tactic| (k_here; k_openite; (with_reducible show ite ((_ == _) = true) _ _); first | (refine ite_pos (beq_iff_eq.mpr (by first | assumption | omega)) ?_; walk_say "PRUNED eq") | (refine ite_neg (fun hc => (by first | (have hc' := beq_iff_eq.mp hc; contradiction) | (have hc' := beq_iff_eq.mp hc; omega))) ?_; walk_say "PRUNED eq")))
local macro_rules | `(tactic| walk_at "compareOp In int ref") => `(tactic| (k_here; k_dflt (refine' in_K ?k1 ?k2 ?k3 ?k4 ?_; (case k1 => k_asm); (case k2 => k_asm); (case k3 => k_is); (case k4 => repeat constructor); k_whole)))
local macro_rules | `(tactic| walk_at "eval Name") => `(tactic| (k_here; (with_reducible show wpAny _ _ (eval (Expr.Name _ _) (envOf _ _ _ _ _)) _ _ _); name_kind "local"; k_dflt (refine' ld ?F ?v ?_ ?a ?b ?c; (case a => exact rfl); (case b => exact ND.kind (by assumption) (by dsimp only; repeat (first | with_reducible exact mem_hd | with_reducible refine mem_tl ?_))); (case F => k_asm); (case v => (repeat (first | with_reducible exact lk_hit | with_reducible exact ll_hit | (with_reducible refine' lk_miss ?lkh ?_; (case lkh => decide +kernel)) | (with_reducible refine' ll_miss ?lkh ?_; (case lkh => decide +kernel))))); (case c => decide +kernel); k_whole)))
local macro_rules | `(tactic| walk_at "eval Name") => `(tactic| (k_here; (with_reducible show wpAny _ _ (eval (Expr.Name _ _) (envOf _ _ _ _ _)) _ _ _); name_kind "globalImplicit"; k_dflt (refine' name_K ?F ?X ?T ?e ?_ ?a ?b ?c; (case a => exact rfl); (case b => exact ND.kind (by assumption) (by dsimp only; repeat (first | with_reducible exact mem_hd | with_reducible refine mem_tl ?_))); (case F => k_asm); (case X => k_asm); (case T => k_asm); (case e => k_is); (case c => decide +kernel); k_whole)))
local macro_rules | `(tactic| walk_at "loadName") => `(tactic| (k_here; (with_reducible show wpAny _ _ (loadName (envOf _ _ _ _ _) _) _ _ _); k_dflt (refine' ldn ?F ?v ?_ ?a ?b; (case a => exact rfl); (case b => exact ND.kind (by assumption) (by dsimp only; repeat (first | with_reducible exact mem_hd | with_reducible refine mem_tl ?_))); (case F => k_asm); (case v => (repeat (first | with_reducible exact lk_hit | with_reducible exact ll_hit | (with_reducible refine' lk_miss ?lkh ?_; (case lkh => decide +kernel)) | (with_reducible refine' ll_miss ?lkh ?_; (case lkh => decide +kernel))))); k_whole)))
local macro_rules | `(tactic| walk_at "storeName") => `(tactic| (k_here; (with_reducible show wpAny _ _ (storeName (envOf _ _ _ _ _) _ _) _ _ _); k_dflt (refine' stN ?F ?N ?_ ?a ?b; (case F => k_asm); (case N => k_asm); (case a => exact rfl); (case b => exact ND.kind (by assumption) (by dsimp only; repeat (first | with_reducible exact mem_hd | with_reducible refine mem_tl ?_))); k_whole; intro h' F' N'; (try dsimp only); (try k_sweep))))
local macro_rules | `(tactic| walk_at "binaryOp Mult int int") => `(tactic| ((with_reducible refine' mul_int ?_ ?hm); k_dflt ((case hm => first | exact IntMulOk.of_right (by decide +kernel) | exact IntMulOk.of_left (by decide +kernel)); k_whole)))
local macro_rules | `(tactic| walk_at "subscriptTail") => `(tactic| (k_here; (with_reducible show wpAny _ _ (subscriptTail _ _ (Value.ref 234) (Value.int _ _)) _ _ _); k_dflt (refine' item_sizes ?F ?X ?l ?h0 ?h1 ?_ ?hs; (case F => k_asm); (case X => k_asm); (case l => k_is); (case h0 => omega); (case h1 => omega); (case hs => (intro _; with_unfolding_all rfl)); k_whole; intro t9)))
local macro_rules | `(tactic| walk_at $s:str) => `(tactic| k_extra $s)
local macro_rules | `(tactic| walk_at "call ref") => `(tactic| (k_here; k_dflt (refine' Con.use ?kC ?k1 ?k2 ?k3 ?k4 ?k5 ?kK ?kd ?ku ?_; (case kC => first | exact c_jan _ _ _ | exact c_yearof _ _ _); (case k1 => k_asm); (case k2 => k_asm); (case k3 => k_asm); (case k4 => k_asm); (case k5 => k_asm); (case kK => first | exact rfl | assumption); (case kd => ktr_room); (case ku => ktr_units); k_whole; intro t9 h9 tk9 F9 N9; (try dsimp only); (try k_sweep); (try k_fold))))
def szF (y m : Int) : Int := szs (m - 1) + (if m = 2 ∧ lawJan (y + 1) - lawJan y = 366 then 1 else 0)
theorem szF_eq (y m : Int) : szF y m = szs (m - 1) + (if m = 2 ∧ lawJan (y + 1) - lawJan y = 366 then 1 else 0) := rfl
def cumF (y m : Int) : Int := (if m = 1 then 0 else if m = 2 then 31 else if m = 3 then 59 else if m = 4 then 90 else if m = 5 then 120 else if m = 6 then 151 else if m = 7 then 181 else if m = 8 then 212 else if m = 9 then 243 else if m = 10 then 273 else if m = 11 then 304 else 334) + (if 2 < m ∧ lawJan (y + 1) - lawJan y = 366 then 1 else 0)
theorem dstep {y n k c : Int} (h1 : 1 ≤ k) (h2 : k ≤ 12) (hc : c = n - lawJan y - cumF y k) (hn : n < lawJan (y + 1)) (hs : szF y k ≤ c) : 1 ≤ k + 1 ∧ k + 1 ≤ 12 ∧ 0 ≤ c - szF y k ∧ c - szF y k = n - lawJan y - cumF y (k + 1) := by
  have hj := jan_up y
  rw [← lawJan_eq, ← lawJan_eq] at hj
  unfold cumF szF at *
  generalize lawJan (y + 1) = J1 at *
  generalize lawJan y = J at *
  have hj2 : J1 - J = 365 ∨ J1 - J = 366 := by omega
  have hk : k = 1 ∨ k = 2 ∨ k = 3 ∨ k = 4 ∨ k = 5 ∨ k = 6 ∨ k = 7 ∨ k = 8 ∨ k = 9 ∨ k = 10 ∨ k = 11 ∨ k = 12 := by omega
  rcases hk with rfl | rfl | rfl | rfl | rfl | rfl | rfl | rfl | rfl | rfl | rfl | rfl <;> rcases hj2 with hg | hg <;> simp [szs] at hc hs ⊢ <;> (repeat' (split at hs)) <;> (repeat' (split at hc)) <;> (repeat' split) <;> omega
theorem dend {n k c : Int} (h1 : 1 ≤ k) (h2 : k ≤ 12) (h0 : 0 ≤ c) (hc : c = n - lawJan (yF n) - cumF (yF n) k) (hs : c < szF (yF n) k) : k = mF n ∧ c + 1 = dF n := by
  rw [mF_tab, dF_tab]
  have hj := jan_up (yF n)
  have hl : isleapF (yF n) = true ↔ lawJan (yF n + 1) - lawJan (yF n) = 366 := by
    rw [isleapF_iff, lawJan_eq, lawJan_eq]
    unfold janF
    generalize yF n = z
    omega
  have hyd : ydF n = n - lawJan (yF n) := by unfold ydF; rw [toJdG_jan, lawJan_eq]
  rw [← lawJan_eq, ← lawJan_eq] at hj
  have hj2 : lawJan (yF n + 1) - lawJan (yF n) = 365 ∨ lawJan (yF n + 1) - lawJan (yF n) = 366 := by omega
  unfold cumF at hc
  unfold szF at hs
  rw [← hyd] at hc
  generalize ydF n = yd at *
  generalize lawJan (yF n + 1) - lawJan (yF n) = g at *
  generalize isleapF (yF n) = lp at *
  clear hyd hj
  have hk : k = 1 ∨ k = 2 ∨ k = 3 ∨ k = 4 ∨ k = 5 ∨ k = 6 ∨ k = 7 ∨ k = 8 ∨ k = 9 ∨ k = 10 ∨ k = 11 ∨ k = 12 := by omega
  have hlp : lp = true ∧ g = 366 ∨ lp = false ∧ g = 365 := by
    rcases hj2 with h | h
    · refine .inr ⟨?_, h⟩
      cases lp
      · rfl
      · have := hl.mp rfl; omega
    · exact .inl ⟨hl.mpr h, h⟩
  rcases hlp with ⟨rfl, rfl⟩ | ⟨rfl, rfl⟩ <;> rcases hk with rfl | rfl | rfl | rfl | rfl | rfl | rfl | rfl | rfl | rfl | rfl | rfl <;> simp [szs] at hc hs <;> (
    have hm : ∀ v, mTab yd v = mTab yd v := fun _ => rfl
    unfold dTab
    generalize hM : mTab yd _ = M
    unfold mTab at hM
    simp at hM ⊢
    (repeat' split at hM) <;> omega)
structure DS where
  cnt : Int
  tc : Tok
  mon : Int
  tm : Tok
def frD (m : Str → Option Value) (c : DS) (y : Str) : Option Value := if y = Str.ofString "month" then some (.int c.mon c.tm) else if y = Str.ofString "count" then some (.int c.cnt c.tc) else m y
theorem frD_end {h₀ h' : Heap} {L : Addr} {m : Str → Option Value} {news : List (Addr × Obj)} {s s' : Shared} {P : DS → Prop} {μ : DS → Nat} {c : DS} {k k2 : Int} {t t2 : Tok} {tk' : Nat} (hs : s' = { s with heap := h', toks := tk' }) (F : Fr h₀ L h' (fun y => if y = Str.ofString "month" then some (.int k t) else if y = Str.ofString "count" then some (.int k2 t2) else frD m c y)) (N : News h₀ L h' news) (hp : P ⟨k2, t2, k, t⟩) (hm : μ ⟨k2, t2, k, t⟩ < μ c) : WSt h₀ L news s (frD m) P μ c .next s' := by
  refine ⟨rfl, ⟨k2, t2, k, t⟩, h', tk', hs, ?_, N, hp, hm⟩
  have : frD m ⟨k2, t2, k, t⟩ = (fun y => if y = Str.ofString "month" then some (.int k t) else if y = Str.ofString "count" then some (.int k2 t2) else frD m c y) := by
    funext y
    unfold frD
    by_cases h : y = Str.ofString "month"
    · rw [if_pos h, if_pos h]
    · by_cases h' : y = Str.ofString "count"
      · rw [if_neg h, if_pos h', if_neg h, if_pos h']
      · rw [if_neg h, if_neg h', if_neg h, if_neg h', if_neg h, if_neg h']
  rw [this]; exact F
theorem c_date (w : World) (n : Int) (t1 : Tok) : Con3 w 281 3 [.int n t1] (yF n) (mF n) (dF n) := by
  refine Con3.mk ?_
  unfold PW LO
  k_fill
  intros
  rename_i hret
  refine wpAny_call ?_
  k_dflt cell_enter
  (rename Fr _ _ _ _ => F1)
  have F2 : Fr _ _ _ (fun nm9 => List.lookup nm9 [(Str.ofString "number", .int n t1)]) := F1
  clear F1
  refine with_nd (by decide +kernel) ?_
  intro hND
  k_with_none
  repeat ((fail_if_success (with_reducible show wpAny _ _ (exec (Stmt.While _ _ _ _) _) _ _ _)); first | (k_unfold; (try dsimp only)) | walk1)
  (rename Fr _ _ _ _ => F3)
  refine while_st (frD _) (fun c => 1 ≤ c.mon ∧ c.mon ≤ 12 ∧ 0 ≤ c.cnt ∧ c.cnt = n - lawJan (yF n) - cumF (yF n) c.mon) (fun c => (12 - c.mon).toNat) ⟨_, _, _, _⟩ F3 rfl (by k_asm) ?_ ?_
  · have := yF_bounds n
    have hx := lawJan_eq (yF n)
    refine ⟨by dsimp only; omega, by dsimp only; omega, ?_, ?_⟩
    · dsimp only; omega
    · dsimp only; unfold cumF; simp
  rintro ⟨k2, tq2, k, tq⟩ h9 tk9 ⟨hp1, hp2, hp3, hp4⟩ F9 N9
  (try dsimp only at hp1 hp2 hp3 hp4)
  k_with "eval IfExp" => ((fail_if_success (with_reducible rename JMark => hJ)); k_dflt (refine' ifexp_join (if k = 2 ∧ lawJan (yF n + 1) - lawJan (yF n) = 366 then 1 else 0) ?F ?N ?_ ?_; (case F => k_asm); (case N => k_asm); rotate_left; intro t9 h9 tk9 F9 N9; (try dsimp only); (try k_sweep); (try k_fold); rotate_left; intro hJ; (try k_fold)))
  k_steps
  k_with_none
  all_goals first
    | (refine joinedV_end ?_ rfl (by k_asm) (by k_asm))
    | (refine frD_end rfl (by k_asm) (by k_asm) ?_ ?_)
    | (refine con3_end hret (by k_asm) (by k_asm) (by assumption) rfl ?_ ?_)
  all_goals (clear hret; law_clear)
  all_goals (try dsimp only at *)
  all_goals (have hYb := (yF_bounds n).2; rw [← lawJan_eq] at hYb)
  all_goals first
    | (have hS : szF (yF n) k ≤ k2 := by assumption
       have hD := dstep hp1 hp2 hp4 hYb hS
       first
        | (show _ < _; omega)
        | (exact ⟨hD.1, hD.2.1, hD.2.2.1, hD.2.2.2⟩))
    | (have hS : k2 < szF (yF n) k := by first | assumption | exact Int.not_le.mp (by assumption)
       have hD := dend hp1 hp2 hp3 hp4 hS
       first | exact hD.1 | exact hD.2)
    | ((repeat' split) <;> first | rfl | (exfalso; simp_all; done))
end Mine
end
section
open PySem PySem.W PyProof.Rows PySem.Calls PySem.Spec
set_option Elab.async false
set_option maxRecDepth 100000
set_option maxHeartbeats 4000000
set_option linter.unusedSimpArgs false
namespace Mine
local macro_rules | `(tactic| walk_at "eval Call") => `(tactic| (k_here; (with_reducible show wpAny _ _ (eval (Expr.Call (Expr.Name _ _) _ [] _) _) _ _ _); k_dflt (refine Call_ ?_)))
local macro_rules | `(tactic| walk_at "ite") => `(tactic| (k_here; k_openite; (with_reducible show ite ((_ == _) = true) _ _); first | (refine ite_pos (beq_iff_eq.mpr (by first | assumption | omega)) ?_; walk_say "PRUNED eq") | (refine ite_neg (fun hc => (by first | (have hc' := beq_iff_eq.mp hc; contradiction) | (have hc' := beq_iff_eq.mp hc; omega))) ?_; walk_say "PRUNED eq")))
local macro_rules | `(tactic| walk_at "compareOp In int ref") => `(tactic| (k_here; k_dflt (refine' in_K ?k1 ?k2 ?k3 ?k4 ?_; (case k1 => k_asm); (case k2 => k_asm); (case k3 => k_is); (case k4 => repeat constructor); k_whole)))
local macro_rules | `(tactic| walk_at "eval Name") => `(tactic| (k_here; (with_reducible show wpAny _ _ (eval (Expr.Name _ _) (envOf _ _ _ _ _)) _ _ _); name_kind "local"; k_dflt (refine' ld ?F ?v ?_ ?a ?b ?c; (case a => exact rfl); (case b => exact ND.kind (by assumption) (by dsimp only; repeat (first | with_reducible exact mem_hd | with_reducible refine mem_tl ?_))); (case F => k_asm); (case v => (repeat (first | with_reducible exact lk_hit | with_reducible exact ll_hit | (with_reducible refine' lk_miss ?lkh ?_; (case lkh => decide +kernel)) | (with_reducible refine' ll_miss ?lkh ?_; (case lkh => decide +kernel))))); (case c => decide +kernel); k_whole)))
local macro_rules | `(tactic| walk_at "eval Name") => `(tactic| (k_here; (with_reducible show wpAny _ _ (eval (Expr.Name _ _) (envOf _ _ _ _ _)) _ _ _); name_kind "globalImplicit"; k_dflt (refine' name_K ?F ?X ?T ?e ?_ ?a ?b ?c; (case a => exact rfl); (case b => exact ND.kind (by assumption) (by dsimp only; repeat (first | with_reducible exact mem_hd | with_reducible refine mem_tl ?_))); (case F => k_asm); (case X => k_asm); (case T => k_asm); (case e => k_is); (case c => decide +kernel); k_whole)))
local macro_rules | `(tactic| walk_at "loadName") => `(tactic| (k_here; (with_reducible show wpAny _ _ (loadName (envOf _ _ _ _ _) _) _ _ _); k_dflt (refine' ldn ?F ?v ?_ ?a ?b; (case a => exact rfl); (case b => exact ND.kind (by assumption) (by dsimp only; repeat (first | with_reducible exact mem_hd | with_reducible refine mem_tl ?_))); (case F => k_asm); (case v => (repeat (first | with_reducible exact lk_hit | with_reducible exact ll_hit | (with_reducible refine' lk_miss ?lkh ?_; (case lkh => decide +kernel)) | (with_reducible refine' ll_miss ?lkh ?_; (case lkh => decide +kernel))))); k_whole)))
local macro_rules | `(tactic| walk_at "storeName") => `(tactic| (k_here; (with_reducible show wpAny _ _ (storeName (envOf _ _ _ _ _) _ _) _ _ _); k_dflt (refine' stN ?F ?N ?_ ?a ?b; (case F => k_asm); (case N => k_asm); (case a => exact rfl); (case b => exact ND.kind (by assumption) (by dsimp only; repeat (first | with_reducible exact mem_hd | with_reducible refine mem_tl ?_))); k_whole; intro h' F' N'; (try dsimp only); (try k_sweep))))
local macro_rules | `(tactic| walk_at "binaryOp Mult int int") => `(tactic| ((with_reducible refine' mul_int ?_ ?hm); k_dflt ((case hm => first | exact IntMulOk.of_right (by decide +kernel) | exact IntMulOk.of_left (by decide +kernel)); k_whole)))
local macro_rules | `(tactic| walk_at $s:str) => `(tactic| k_extra $s)
def leapF (y : Int) : Bool := decide ((y * 7 + 1) % 19 < 7)
theorem c_leap (w : World) (y : Int) (t1 : Tok) : Con w 64 1 [.int y t1] (fun _ => .bool (leapF y)) := by
  refine Con.mk ?_
  unfold PW LO
  k_fill
  intros
  rename_i hret
  refine wpAny_call ?_
  k_dflt cell_enter
  (rename Fr _ _ _ _ => F1)
  have F2 : Fr _ _ _ (fun nm9 => List.lookup nm9 [(Str.ofString "year", .int y t1)]) := F1
  clear F1
  refine with_nd (by decide +kernel) ?_
  intro hND
  k_steps
  all_goals (refine cb_retB hret ?_ (by k_asm) (by k_asm))
  all_goals (simp only [fm19]; rfl)
local macro_rules | `(tactic| walk_at "call ref") => `(tactic| (k_here; k_dflt (refine' Con.use ?kC ?k1 ?k2 ?k3 ?k4 ?k5 ?kK ?kd ?ku ?_; (case kC => first | exact c_leap _ _ _); (case k1 => k_asm); (case k2 => k_asm); (case k3 => k_asm); (case k4 => k_asm); (case k5 => k_asm); (case kK => first | exact rfl | assumption); (case kd => ktr_room); (case ku => ktr_units); k_whole; intro t9 h9 tk9 F9 N9; (try dsimp only); (try k_sweep); (try k_fold))))
local macro_rules | `(tactic| walk_at $s:str) => `(tactic| k_extra $s)
def monthsF (y : Int) : Int := if leapF y = true then 13 else 12
theorem c_months (w : World) (y : Int) (t1 : Tok) : Con w 71 2 [.int y t1] (fun t => .int (monthsF y) t) := by
  refine Con.mk ?_
  unfold PW LO
  k_fill
  intros
  rename_i hret
  refine wpAny_call ?_
  k_dflt cell_enter
  (rename Fr _ _ _ _ => F1)
  have F2 : Fr _ _ _ (fun nm9 => List.lookup nm9 [(Str.ofString "year", .int y t1)]) := F1
  clear F1
  refine with_nd (by decide +kernel) ?_
  intro hND
  k_steps
  all_goals (refine cb_retI hret ?_ (by k_asm) (by k_asm))
  all_goals (unfold monthsF; simp only [*, if_true, if_false, reduceIte, Bool.false_eq_true])
def d1day (y : Int) : Int := (235 * y - 234) / 19 * 29 + (12084 + 13753 * ((235 * y - 234) / 19)) / 25920
def delay1F (y : Int) : Int := if 3 * (d1day y + 1) % 7 < 3 then d1day y + 1 else d1day y
theorem c_delay1 (w : World) (y : Int) (t1 : Tok) : Con w 78 1 [.int y t1] (fun t => .int (delay1F y) t) := by
  refine Con.mk ?_
  unfold PW LO
  k_fill
  intros
  rename_i hret
  refine wpAny_call ?_
  k_dflt cell_enter
  (rename Fr _ _ _ _ => F1)
  have F2 : Fr _ _ _ (fun nm9 => List.lookup nm9 [(Str.ofString "year", .int y t1)]) := F1
  clear F1
  refine with_nd (by decide +kernel) ?_
  intro hND
  k_steps
  all_goals (refine cb_retI hret ?_ (by k_asm) (by k_asm))
  all_goals (law_clear; simp only [fd19, fd25920, fm7] at *; unfold delay1F d1day; split <;> first | rfl | contradiction)
local macro_rules | `(tactic| walk_at "call ref") => `(tactic| (k_here; k_dflt (refine' Con.use ?kC ?k1 ?k2 ?k3 ?k4 ?k5 ?kK ?kd ?ku ?_; (case kC => first | exact c_delay1 _ _ _); (case k1 => k_asm); (case k2 => k_asm); (case k3 => k_asm); (case k4 => k_asm); (case k5 => k_asm); (case kK => first | exact rfl | assumption); (case kd => ktr_room); (case ku => ktr_units); k_whole; intro t9 h9 tk9 F9 N9; (try dsimp only); (try k_sweep); (try k_fold))))
local macro_rules | `(tactic| walk_at $s:str) => `(tactic| k_extra $s)
def delay2F (y : Int) : Int := if delay1F (y + 1) - delay1F y = 356 then 2 else if delay1F y - delay1F (y - 1) = 382 then 1 else 0
theorem c_delay2 (w : World) (y : Int) (t1 : Tok) : Con w 85 2 [.int y t1] (fun t => .int (delay2F y) t) := by
  refine Con.mk ?_
  unfold PW LO
  k_fill
  intros
  rename_i hret
  refine wpAny_call ?_
  k_dflt cell_enter
  (rename Fr _ _ _ _ => F1)
  have F2 : Fr _ _ _ (fun nm9 => List.lookup nm9 [(Str.ofString "year", .int y t1)]) := F1
  clear F1
  refine with_nd (by decide +kernel) ?_
  intro hND
  k_steps
  all_goals (refine cb_retI hret ?_ (by k_asm) (by k_asm))
  all_goals (law_clear; unfold delay2F; (repeat' split) <;> first | rfl | contradiction)
local macro_rules | `(tactic| walk_at "call ref") => `(tactic| (k_here; k_dflt (refine' Con.use ?kC ?k1 ?k2 ?k3 ?k4 ?k5 ?kK ?kd ?ku ?_; (case kC => first | exact c_midnight _ _ _ | exact c_months _ _ _ | exact c_delay1 _ _ _ | exact c_delay2 _ _ _); (case k1 => k_asm); (case k2 => k_asm); (case k3 => k_asm); (case k4 => k_asm); (case k5 => k_asm); (case kK => first | exact rfl | assumption); (case kd => ktr_room); (case ku => ktr_units); k_whole; intro t9 h9 tk9 F9 N9; (try dsimp only); (try k_sweep); (try k_fold))))
local macro_rules | `(tactic| walk_at $s:str) => `(tactic| k_extra $s)
def newF (y d : Int) : Int := 347996 + delay1F y + delay2F y + d + 1
theorem c_tojd7 (w : World) (y d : Int) (t1 t2 t3 : Tok) : Con w 113 4 [.int y t1, .int 7 t2, .int d t3] (fun t => .int (midnightF (newF y d)) t) := by
  refine Con.mk ?_
  unfold PW LO
  k_fill
  intros
  rename_i hret
  refine wpAny_call ?_
  k_dflt cell_enter
  (rename Fr _ _ _ _ => F1)
  have F2 : Fr _ _ _ (fun nm9 => List.lookup nm9 [(Str.ofString "day", .int d t3), (Str.ofString "month", .int 7 t2), (Str.ofString "year", .int y t1)]) := F1
  clear F1
  refine with_nd (by decide +kernel) ?_
  intro hND
  k_steps
  all_goals (refine cb_retI hret ?_ (by k_asm) (by k_asm))
  all_goals rfl
local macro_rules | `(tactic| walk_at "call ref") => `(tactic| (k_here; k_dflt (refine' Con.use ?kC ?k1 ?k2 ?k3 ?k4 ?k5 ?kK ?kd ?ku ?_; (case kC => first | exact c_tojd7 _ _ _ _ _ _); (case k1 => k_asm); (case k2 => k_asm); (case k3 => k_asm); (case k4 => k_asm); (case k5 => k_asm); (case kK => first | exact rfl | assumption); (case kd => ktr_room); (case ku => ktr_units); k_whole; intro t9 h9 tk9 F9 N9; (try dsimp only); (try k_sweep); (try k_fold))))
local macro_rules | `(tactic| walk_at $s:str) => `(tactic| k_extra $s)
def ydaysF (y : Int) : Int := midnightF (newF (y + 1) 1) - midnightF (newF y 1)
theorem c_ydays (w : World) (y : Int) (t1 : Tok) : Con w 92 5 [.int y t1] (fun t => .int (ydaysF y) t) := by
  refine Con.mk ?_
  unfold PW LO
  k_fill
  intros
  rename_i hret
  refine wpAny_call ?_
  k_dflt cell_enter
  (rename Fr _ _ _ _ => F1)
  have F2 : Fr _ _ _ (fun nm9 => List.lookup nm9 [(Str.ofString "year", .int y t1)]) := F1
  clear F1
  refine with_nd (by decide +kernel) ?_
  intro hND
  k_steps
  all_goals (refine cb_retI hret ?_ (by k_asm) (by k_asm))
  all_goals rfl
local macro_rules | `(tactic| walk_at "call ref") => `(tactic| (k_here; k_dflt (refine' Con.use ?kC ?k1 ?k2 ?k3 ?k4 ?k5 ?kK ?kd ?ku ?_; (case kC => first | exact c_leap _ _ _ | exact c_ydays _ _ _); (case k1 => k_asm); (case k2 => k_asm); (case k3 => k_asm); (case k4 => k_asm); (case k5 => k_asm); (case kK => first | exact rfl | assumption); (case kd => ktr_room); (case ku => ktr_units); k_whole; intro t9 h9 tk9 F9 N9; (try dsimp only); (try k_sweep); (try k_fold))))
local macro_rules | `(tactic| walk_at $s:str) => `(tactic| k_extra $s)
def mlenF (y m : Int) : Int := if [2, 4, 6, 10, 13].any (· == m) = true then 29 else if m = 12 ∧ leapF y = false then 29 else if m = 8 ∧ ydaysF y % 10 ≠ 5 then 29 else if m = 9 ∧ ydaysF y % 10 = 3 then 29 else 30
theorem c_mlen (w : World) (y m : Int) (t1 t2 : Tok) (hm : m ≤ 13) : Con w 99 6 [.int y t1, .int m t2] (fun t => .int (mlenF y m) t) := by
  refine Con.mk ?_
  unfold PW LO
  k_fill
  intros
  rename_i hret
  refine wpAny_call ?_
  k_dflt cell_enter
  (rename Fr _ _ _ _ => F1)
  have F2 : Fr _ _ _ (fun nm9 => List.lookup nm9 [(Str.ofString "month", .int m t2), (Str.ofString "year", .int y t1)]) := F1
  clear F1
  refine with_nd (by decide +kernel) ?_
  intro hND
  k_steps
  all_goals (refine cb_retI hret ?_ (by k_asm) (by first | k_asm | exact cb_drop (by assumption) (fun p hp => List.mem_cons_of_mem _ hp)))
  all_goals (law_clear; (try simp only [fm10] at *); unfold mlenF; (repeat' split) <;> first | rfl | omega | simp_all)
end Mine
end
section
open PySem PySem.W PyProof.Rows PySem.Calls PySem.Spec
set_option Elab.async false
set_option maxRecDepth 100000
set_option maxHeartbeats 4000000
set_option linter.unusedSimpArgs false
namespace Mine
local macro_rules | `(tactic| walk_at "eval Call") => `(tactic| (k_here; (with_reducible show wpAny _ _ (eval (Expr.Call (Expr.Name _ _) _ [] _) _) _ _ _); k_dflt (refine Call_ ?_)))
local macro_rules | `(tactic| walk_at "ite") => `(tactic| (k_here; k_openite; (with_reducible show ite ((_ == _) = true) _ _); first | (refine ite_pos (beq_iff_eq.mpr (by first | assumption | omega)) ?_; walk_say "PRUNED eq") | (refine ite_neg (fun hc => (by first | (have hc' := beq_iff_eq.mp hc; contradiction) | (have hc' := beq_iff_eq.mp hc; omega))) ?_; walk_say "PRUNED eq")))
local macro_rules | `(tactic| walk_at "compareOp In int ref") => `(tactic| (k_here; k_dflt (refine' in_K ?k1 ?k2 ?k3 ?k4 ?_; (case k1 => k_asm); (case k2 => k_asm); (case k3 => k_is); (case k4 => repeat constructor); k_whole)))
local macro_rules | `(tactic| walk_at "eval Name") => `(tactic| (k_here; (with_reducible show wpAny _ _ (eval (Expr.Name _ _) (envOf _ _ _ _ _)) _ _ _); name_kind "local"; k_dflt (refine' ld ?F ?v ?_ ?a ?b ?c; (case a => exact rfl); (case b => exact ND.kind (by assumption) (by dsimp only; repeat (first | with_reducible exact mem_hd | with_reducible refine mem_tl ?_))); (case F => k_asm); (case v => (repeat (first | with_reducible exact lk_hit | with_reducible exact ll_hit | (with_reducible refine' lk_miss ?lkh ?_; (case lkh => decide +kernel)) | (with_reducible refine' ll_miss ?lkh ?_; (case lkh => decide +kernel))))); (case c => decide +kernel); k_whole)))
local macro_rules | `(tactic| walk_at "eval Name") => `(tactic| (k_here; (with_reducible show wpAny _ _ (eval (Expr.Name _ _) (envOf _ _ _ _ _)) _ _ _); name_kind "globalImplicit"; k_dflt (refine' name_K ?F ?X ?T ?e ?_ ?a ?b ?c; (case a => exact rfl); (case b => exact ND.kind (by assumption) (by dsimp only; repeat (first | with_reducible exact mem_hd | with_reducible refine mem_tl ?_))); (case F => k_asm); (case X => k_asm); (case T => k_asm); (case e => k_is); (case c => decide +kernel); k_whole)))
local macro_rules | `(tactic| walk_at "loadName") => `(tactic| (k_here; (with_reducible show wpAny _ _ (loadName (envOf _ _ _ _ _) _) _ _ _); k_dflt (refine' ldn ?F ?v ?_ ?a ?b; (case a => exact rfl); (case b => exact ND.kind (by assumption) (by dsimp only; repeat (first | with_reducible exact mem_hd | with_reducible refine mem_tl ?_))); (case F => k_asm); (case v => (repeat (first | with_reducible exact lk_hit | with_reducible exact ll_hit | (with_reducible refine' lk_miss ?lkh ?_; (case lkh => decide +kernel)) | (with_reducible refine' ll_miss ?lkh ?_; (case lkh => decide +kernel))))); k_whole)))
local macro_rules | `(tactic| walk_at "storeName") => `(tactic| (k_here; (with_reducible show wpAny _ _ (storeName (envOf _ _ _ _ _) _ _) _ _ _); k_dflt (refine' stN ?F ?N ?_ ?a ?b; (case F => k_asm); (case N => k_asm); (case a => exact rfl); (case b => exact ND.kind (by assumption) (by dsimp only; repeat (first | with_reducible exact mem_hd | with_reducible refine mem_tl ?_))); k_whole; intro h' F' N'; (try dsimp only); (try k_sweep))))
local macro_rules | `(tactic| walk_at "binaryOp Mult int int") => `(tactic| ((with_reducible refine' mul_int ?_ ?hm); k_dflt ((case hm => first | exact IntMulOk.of_right (by decide +kernel) | exact IntMulOk.of_left (by decide +kernel)); k_whole)))
local macro_rules | `(tactic| walk_at $s:str) => `(tactic| k_extra $s)
local macro_rules | `(tactic| walk_at "call ref") => `(tactic| (k_here; k_dflt (refine' Con.use ?kC ?k1 ?k2 ?k3 ?k4 ?k5 ?kK ?kd ?ku ?_; (case kC => first | exact c_mlen _ _ _ _ _ (by omega)); (case k1 => k_asm); (case k2 => k_asm); (case k3 => k_asm); (case k4 => k_asm); (case k5 => k_asm); (case kK => first | exact rfl | assumption); (case kd => ktr_room); (case ku => ktr_units); k_whole; intro t9 h9 tk9 F9 N9; (try dsimp only); (try k_sweep); (try k_fold))))
local macro_rules | `(tactic| walk_at $s:str) => `(tactic| k_extra $s)
theorem c_mdays (w : World) (y m : Int) (t1 t2 : Tok) (hm : m ≤ 13) : Con w 106 7 [.int y t1, .int m t2] (fun t => .int (mlenF y m) t) := by
  refine Con.mk ?_
  unfold PW LO
  k_fill
  intros
  rename_i hret
  refine wpAny_call ?_
  k_dflt cell_enter
  (rename Fr _ _ _ _ => F1)
  have F2 : Fr _ _ _ (fun nm9 => List.lookup nm9 [(Str.ofString "month", .int m t2), (Str.ofString "year", .int y t1)]) := F1
  clear F1
  refine with_nd (by decide +kernel) ?_
  intro hND
  k_steps
  all_goals (refine cb_retI hret ?_ (by k_asm) (by k_asm))
  all_goals rfl
local macro_rules | `(tactic| walk_at "call ref") => `(tactic| (k_here; k_dflt (refine' Con.use ?kC ?k1 ?k2 ?k3 ?k4 ?k5 ?kK ?kd ?ku ?_; (case kC => first | exact c_midnight _ _ _ | exact c_months _ _ _ | exact c_delay1 _ _ _ | exact c_delay2 _ _ _ | exact c_mdays _ _ _ _ _ (by omega)); (case k1 => k_asm); (case k2 => k_asm); (case k3 => k_asm); (case k4 => k_asm); (case k5 => k_asm); (case kK => first | exact rfl | assumption); (case kd => ktr_room); (case ku => ktr_units); k_whole; intro t9 h9 tk9 F9 N9; (try dsimp only); (try k_sweep); (try k_fold))))
local macro_rules | `(tactic| walk_at $s:str) => `(tactic| k_extra $s)
theorem monthsF_le (y : Int) : 12 ≤ monthsF y ∧ monthsF y ≤ 13 := by unfold monthsF; split <;> omega
def msum (y a b : Int) : Int := ((rangeKs a (b - a).toNat).map (mlenF y)).sum
def hebF (y m d : Int) : Int := midnightF (if m < 7 then newF y d + msum y 7 (monthsF y + 1) + msum y 1 m else newF y d + msum y 7 m)
theorem c_tojdh (w : World) (y m d : Int) (t1 t2 t3 : Tok) (hm : 1 ≤ m) (hm' : m ≤ 13) : Con w 113 8 [.int y t1, .int m t2, .int d t3] (fun t => .int (hebF y m d) t) := by
  refine Con.mk ?_
  unfold PW LO
  k_fill
  intros
  rename_i hret
  refine wpAny_call ?_
  k_dflt cell_enter
  (rename Fr _ _ _ _ => F1)
  have F2 : Fr _ _ _ (fun nm9 => List.lookup nm9 [(Str.ofString "day", .int d t3), (Str.ofString "month", .int m t2), (Str.ofString "year", .int y t1)]) := F1
  clear F1
  refine with_nd (by decide +kernel) ?_
  intro hND
  have hmon := monthsF_le y
  k_with_none
  k_with "pyIter ref" => k_state_given ["year", "jd!"] (fun y j0 pre jd => jd = j0 + (pre.map (mlenF y)).sum) "jd"
  k_steps
  k_with_none
  all_goals (refine cb_retI hret ?_ (by k_asm) (by k_asm))
  · law_clear
    unfold hebF msum newF
    rw [if_pos (by assumption)]
    subst_vars
    rfl
  · law_clear
    unfold hebF msum newF
    rw [if_neg (by assumption)]
    subst_vars
    rfl
end Mine
end
section
open PySem PySem.W PyProof.Rows PySem.Calls PySem.Spec
set_option Elab.async false
set_option maxRecDepth 100000
set_option maxHeartbeats 4000000
set_option linter.unusedSimpArgs false
namespace Mine
local macro_rules | `(tactic| walk_at "eval Call") => `(tactic| (k_here; (with_reducible show wpAny _ _ (eval (Expr.Call (Expr.Name _ _) _ [] _) _) _ _ _); k_dflt (refine Call_ ?_)))
local macro_rules | `(tactic| walk_at "ite") => `(tactic| (k_here; k_openite; (with_reducible show ite ((_ == _) = true) _ _); first | (refine ite_pos (beq_iff_eq.mpr (by first | assumption | omega)) ?_; walk_say "PRUNED eq") | (refine ite_neg (fun hc => (by first | (have hc' := beq_iff_eq.mp hc; contradiction) | (have hc' := beq_iff_eq.mp hc; omega))) ?_; walk_say "PRUNED eq")))
local macro_rules | `(tactic| walk_at "compareOp In int ref") => `(tactic| (k_here; k_dflt (refine' in_K ?k1 ?k2 ?k3 ?k4 ?_; (case k1 => k_asm); (case k2 => k_asm); (case k3 => k_is); (case k4 => repeat constructor); k_whole)))
local macro_rules | `(tactic| walk_at "eval Name") => `(tactic| (k_here; (with_reducible show wpAny _ _ (eval (Expr.Name _ _) (envOf _ _ _ _ _)) _ _ _); name_kind "local"; k_dflt (refine' ld ?F ?v ?_ ?a ?b ?c; (case a => exact rfl); (case b => exact ND.kind (by assumption) (by dsimp only; repeat (first | with_reducible exact mem_hd | with_reducible refine mem_tl ?_))); (case F => k_asm); (case v => (repeat (first | with_reducible exact lk_hit | with_reducible exact ll_hit | (with_reducible refine' lk_miss ?lkh ?_; (case lkh => decide +kernel)) | (with_reducible refine' ll_miss ?lkh ?_; (case lkh => decide +kernel))))); (case c => decide +kernel); k_whole)))
local macro_rules | `(tactic| walk_at "eval Name") => `(tactic| (k_here; (with_reducible show wpAny _ _ (eval (Expr.Name _ _) (envOf _ _ _ _ _)) _ _ _); name_kind "globalImplicit"; k_dflt (refine' name_K ?F ?X ?T ?e ?_ ?a ?b ?c; (case a => exact rfl); (case b => exact ND.kind (by assumption) (by dsimp only; repeat (first | with_reducible exact mem_hd | with_reducible refine mem_tl ?_))); (case F => k_asm); (case X => k_asm); (case T => k_asm); (case e => k_is); (case c => decide +kernel); k_whole)))
local macro_rules | `(tactic| walk_at "loadName") => `(tactic| (k_here; (with_reducible show wpAny _ _ (loadName (envOf _ _ _ _ _) _) _ _ _); k_dflt (refine' ldn ?F ?v ?_ ?a ?b; (case a => exact rfl); (case b => exact ND.kind (by assumption) (by dsimp only; repeat (first | with_reducible exact mem_hd | with_reducible refine mem_tl ?_))); (case F => k_asm); (case v => (repeat (first | with_reducible exact lk_hit | with_reducible exact ll_hit | (with_reducible refine' lk_miss ?lkh ?_; (case lkh => decide +kernel)) | (with_reducible refine' ll_miss ?lkh ?_; (case lkh => decide +kernel))))); k_whole)))
local macro_rules | `(tactic| walk_at "storeName") => `(tactic| (k_here; (with_reducible show wpAny _ _ (storeName (envOf _ _ _ _ _) _ _) _ _ _); k_dflt (refine' stN ?F ?N ?_ ?a ?b; (case F => k_asm); (case N => k_asm); (case a => exact rfl); (case b => exact ND.kind (by assumption) (by dsimp only; repeat (first | with_reducible exact mem_hd | with_reducible refine mem_tl ?_))); k_whole; intro h' F' N'; (try dsimp only); (try k_sweep))))
local macro_rules | `(tactic| walk_at "binaryOp Mult int int") => `(tactic| ((with_reducible refine' mul_int ?_ ?hm); k_dflt ((case hm => first | exact IntMulOk.of_right (by decide +kernel) | exact IntMulOk.of_left (by decide +kernel)); k_whole)))
local macro_rules | `(tactic| walk_at $s:str) => `(tactic| k_extra $s)
theorem toJdF (n : Int) : toJdG (yF n) (mF n) (dF n) = n := by
  unfold dF toJdG
  omega
local macro_rules | `(tactic| walk_at "call ref") => `(tactic| (k_here; k_dflt (refine' Con.use ?kC ?k1 ?k2 ?k3 ?k4 ?k5 ?kK ?kd ?ku ?_; (case kC => first | exact c_tojdh _ _ _ _ _ _ _ (by assumption) (by assumption) | exact c_tojd _ _ _ _ _ _ _ (legalF _)); (case k1 => k_asm); (case k2 => k_asm); (case k3 => k_asm); (case k4 => k_asm); (case k5 => k_asm); (case kK => first | exact rfl | assumption); (case kd => ktr_room); (case ku => ktr_units); k_whole; intro t9 h9 tk9 F9 N9; (try dsimp only); (try k_sweep); (try k_fold))))
local macro_rules | `(tactic| walk_at "call ref") => `(tactic| (k_here; k_dflt (refine' Con3.use ?kC ?k1 ?k2 ?k3 ?k4 ?k5 ?kK ?kd ?ku ?_; (case kC => exact c_fromjd _ _ _); (case k1 => k_asm); (case k2 => k_asm); (case k3 => k_asm); (case k4 => k_asm); (case k5 => k_asm); (case kK => first | exact rfl | assumption); (case kd => ktr_room); (case ku => ktr_units); k_whole; intro D9 t7 t8 t9 c9 h9 tk9 F9 N9 hl9; (try simp only [AllLt, and_true] at hl9); (try dsimp only); (try k_sweep); (try k_fold))))
local macro_rules | `(tactic| walk_at $s:str) => `(tactic| k_extra $s)

def gyOk (g m d : Int) : Option Int := if yF (hebF (g + 3760) m d) = g then some (hebF (g + 3760) m d) else if yF (hebF (g + 3760 + 1) m d) = g then some (hebF (g + 3760 + 1) m d) else none
theorem c_gy (w : World) (g m d n : Int) (t1 t2 t3 : Tok) (hm : 1 ≤ m) (hm' : m ≤ 13) (hn : gyOk g m d = some n) : Con0 w 120 9 [.int g t1, .int m t2, .int d t3] (fun t => .int n t) := by
  refine Con0.mk ?_
  unfold PW LO
  k_fill
  intros
  rename_i hret
  refine wpAny_call ?_
  (rename Fr _ _ _ _ => F0)
  have N0 := nil_of F0
  k_dflt cell_enter
  (rename Fr _ _ _ _ => F1)
  have F2 : Fr _ _ _ (fun nm9 => List.lookup nm9 [(Str.ofString "hebrew_day", .int d t3), (Str.ofString "hebrew_month", .int m t2), (Str.ofString "gregorianyear", .int g t1)]) := F1
  clear F1
  refine with_nd (by decide +kernel) ?_
  intro hND
  unfold gyOk at hn
  split at hn
  · cases hn
    k_steps
    all_goals (refine cb_retI0 hret (toJdF _) (by k_asm))
  · split at hn
    · cases hn
      k_steps
      all_goals (refine cb_retI0 hret (toJdF _) (by k_asm))
    · cases hn
theorem c_gyX (w : World) (g m d : Int) (t1 t2 t3 : Tok) (hm : 1 ≤ m) (hm' : m ≤ 13) (hn : gyOk g m d = none) : ConX0 w 120 9 [.int g t1, .int m t2, .int d t3] := by
  refine ConX0.mk ?_
  unfold PW LO
  k_fill
  intros
  rename_i hret
  refine wpAny_call ?_
  (rename Fr _ _ _ _ => F0)
  have N0 := nil_of F0
  have hKD := kd_of F0
  k_dflt cell_enter
  (rename Fr _ _ _ _ => F1)
  have F2 : Fr _ _ _ (fun nm9 => List.lookup nm9 [(Str.ofString "hebrew_day", .int d t3), (Str.ofString "hebrew_month", .int m t2), (Str.ofString "gregorianyear", .int g t1)]) := F1
  clear F1
  refine with_nd (by decide +kernel) ?_
  intro hND
  unfold gyOk at hn
  split at hn
  · cases hn
  · split at hn
    · cases hn
    · k_steps
      all_goals (exact hret _ _ _ _ _ _ _ (by assumption) (by assumption) (by assumption) (by assumption))
end Mine
end
section
open PySem PySem.W PyProof.Rows PySem.Calls PySem.Spec
set_option Elab.async false
set_option maxRecDepth 100000
set_option maxHeartbeats 4000000
set_option linter.unusedSimpArgs false
namespace Mine
local macro_rules | `(tactic| walk_at "eval Call") => `(tactic| (k_here; (with_reducible show wpAny _ _ (eval (Expr.Call (Expr.Name _ _) _ [] _) _) _ _ _); k_dflt (refine Call_ ?_)))
local macro_rules | `(tactic| walk_at "ite") => `(tactic| (k_here; k_openite; (with_reducible show ite ((_ == _) = true) _ _); first | (refine ite_pos (beq_iff_eq.mpr (by first | assumption | omega)) ?_; walk_say "PRUNED eq") | (refine ite_neg (fun hc => (by first | (have hc' := beq_iff_eq.mp hc; contradiction) | (have hc' := beq_iff_eq.mp hc; omega))) ?_; walk_say "PRUNED eq")))
local macro_rules | `(tactic| walk_at "compareOp In int ref") => `(tactic| (k_here; k_dflt (refine' in_K ?k1 ?k2 ?k3 ?k4 ?_; (case k1 => k_asm); (case k2 => k_asm); (case k3 => k_is); (case k4 => repeat constructor); k_whole)))
local macro_rules | `(tactic| walk_at "eval Name") => `(tactic| (k_here; (with_reducible show wpAny _ _ (eval (Expr.Name _ _) (envOf _ _ _ _ _)) _ _ _); name_kind "local"; k_dflt (refine' ld ?F ?v ?_ ?a ?b ?c; (case a => exact rfl); (case b => exact ND.kind (by assumption) (by dsimp only; repeat (first | with_reducible exact mem_hd | with_reducible refine mem_tl ?_))); (case F => k_asm); (case v => (repeat (first | with_reducible exact lk_hit | with_reducible exact ll_hit | (with_reducible refine' lk_miss ?lkh ?_; (case lkh => decide +kernel)) | (with_reducible refine' ll_miss ?lkh ?_; (case lkh => decide +kernel))))); (case c => decide +kernel); k_whole)))
local macro_rules | `(tactic| walk_at "eval Name") => `(tactic| (k_here; (with_reducible show wpAny _ _ (eval (Expr.Name _ _) (envOf _ _ _ _ _)) _ _ _); name_kind "globalImplicit"; k_dflt (refine' name_K ?F ?X ?T ?e ?_ ?a ?b ?c; (case a => exact rfl); (case b => exact ND.kind (by assumption) (by dsimp only; repeat (first | with_reducible exact mem_hd | with_reducible refine mem_tl ?_))); (case F => k_asm); (case X => k_asm); (case T => k_asm); (case e => k_is); (case c => decide +kernel); k_whole)))
local macro_rules | `(tactic| walk_at "loadName") => `(tactic| (k_here; (with_reducible show wpAny _ _ (loadName (envOf _ _ _ _ _) _) _ _ _); k_dflt (refine' ldn ?F ?v ?_ ?a ?b; (case a => exact rfl); (case b => exact ND.kind (by assumption) (by dsimp only; repeat (first | with_reducible exact mem_hd | with_reducible refine mem_tl ?_))); (case F => k_asm); (case v => (repeat (first | with_reducible exact lk_hit | with_reducible exact ll_hit | (with_reducible refine' lk_miss ?lkh ?_; (case lkh => decide +kernel)) | (with_reducible refine' ll_miss ?lkh ?_; (case lkh => decide +kernel))))); k_whole)))
local macro_rules | `(tactic| walk_at "storeName") => `(tactic| (k_here; (with_reducible show wpAny _ _ (storeName (envOf _ _ _ _ _) _ _) _ _ _); k_dflt (refine' stN ?F ?N ?_ ?a ?b; (case F => k_asm); (case N => k_asm); (case a => exact rfl); (case b => exact ND.kind (by assumption) (by dsimp only; repeat (first | with_reducible exact mem_hd | with_reducible refine mem_tl ?_))); k_whole; intro h' F' N'; (try dsimp only); (try k_sweep))))
local macro_rules | `(tactic| walk_at "binaryOp Mult int int") => `(tactic| ((with_reducible refine' mul_int ?_ ?hm); k_dflt ((case hm => first | exact IntMulOk.of_right (by decide +kernel) | exact IntMulOk.of_left (by decide +kernel)); k_whole)))
local macro_rules | `(tactic| walk_at $s:str) => `(tactic| k_extra $s)
theorem c_leapB (w : World) (y : Int) (t : Tok) {b : Bool} (h : leapF y = b) : Con w 64 1 [.int y t] (fun _ => .bool b) := by
  subst h
  exact c_leap w y t
local macro_rules | `(tactic| walk_at "truthy") => `(tactic| (k_here; k_dflt (refine' truthy_eve ?kE ?_; (case kE => assumption); k_whole)))
local macro_rules | `(tactic| walk_at "call ref") => `(tactic| (k_here; k_dflt (refine' Con.use ?kC ?k1 ?k2 ?k3 ?k4 ?k5 ?kK ?kd ?ku ?_; (case kC => first | exact c_jwday _ _ _ | exact c_leapB _ _ _ (by assumption)); (case k1 => k_asm); (case k2 => k_asm); (case k3 => k_asm); (case k4 => k_asm); (case k5 => k_asm); (case kK => first | exact rfl | assumption); (case kd => ktr_room); (case ku => ktr_units); k_whole; intro t9 h9 tk9 F9 N9; (try dsimp only); (try k_sweep); (try k_fold))))
local macro_rules | `(tactic| walk_at "call ref") => `(tactic| (k_here; k_dflt (refine' Con3.use ?kC ?k1 ?k2 ?k3 ?k4 ?k5 ?kK ?kd ?ku ?_; (case kC => first | exact c_fromjd _ _ _); (case k1 => k_asm); (case k2 => k_asm); (case k3 => k_asm); (case k4 => k_asm); (case k5 => k_asm); (case kK => first | exact rfl | assumption); (case kd => ktr_room); (case ku => ktr_units); k_whole; intro D9 t7 t8 t9 c9 h9 tk9 F9 N9 hl9; (try simp only [AllLt, and_true] at hl9); (try dsimp only); (try k_sweep); (try k_fold))))
local macro_rules | `(tactic| walk_at "call ref") => `(tactic| (k_here; k_dflt (refine' Con0.use ?kC ?k1 ?k2 ?k3 ?k5 ?kK ?kd ?ku ?_; (case kC => first | exact c_gy _ _ _ _ _ _ _ _ (by decide) (by decide) (by assumption)); (case k1 => k_asm); (case k2 => k_asm); (case k3 => k_asm); (case k5 => k_asm); (case kK => first | exact rfl | assumption); (case kd => ktr_room); (case ku => ktr_units); k_whole; intro t9 h9 tk9 F9 N9; (try dsimp only); (try k_sweep); (try k_fold))))
local macro_rules | `(tactic| walk_at "call ref") => `(tactic| (k_here; k_dflt (refine' ConX0.use ?kC ?k1 ?k2 ?k3 ?k5 ?kK ?kd ?ku ?_; (case kC => first | exact c_gyX _ _ _ _ _ _ _ (by decide) (by decide) (by assumption)); (case k1 => k_asm); (case k2 => k_asm); (case k3 => k_asm); (case k5 => k_asm); (case kK => first | exact rfl | assumption); (case kd => ktr_room); (case ku => ktr_units); k_whole; intro e9 t9 xs9 ns9 g9 h9 tk9 F9 S9 R9 U9; (try dsimp only); (try k_sweep); (try k_fold))))
def eveF (n : Int) (b : Bool) : Int := if b = true then n - 1 else n
theorem c_hanukkah (w : World) (g n : Int) (ev : Value) (b : Bool) (t1 : Tok) (hv : EveV ev b) (hn : gyOk g 9 25 = some n) : Con30 w 128 11 [.int g t1, ev] (yF (eveF n b)) (mF (eveF n b)) (dF (eveF n b)) := by
  show Con30 w 128 11 [.int g t1, ev] (yF (if b = true then n - 1 else n)) (mF (if b = true then n - 1 else n)) (dF (if b = true then n - 1 else n))
  refine Con30.mk ?_
  unfold PW LO
  k_fill
  intros
  rename_i hret
  refine wpAny_call ?_
  (rename Fr _ _ _ _ => F0)
  have N0 := nil_of F0
  k_dflt (refine' code_def ?k1 ?k2 ?k3 ?k4 ?k5 ?kA ?kF ?kK ?k6 ?k7 ?k8 ?k9 ?kB ?_ ?c2 ?c3 ?c4 ?c5; (case kA => exact rfl); (case kF => exact rfl); (case kK => assumption); (case k1 => k_asm); (case k2 => k_asm); (case k3 => k_asm); (case k4 => k_asm); (case k5 => k_asm); (case k6 => k_is); (case k7 => k_is); (case k8 => ktr_room); (case k9 => exact binds_K (by k_in) rfl (by k_is) rfl rfl rfl); (case c5 => decide); (case kB => exact locs rfl); (case c2 => exact rfl); (case c3 => exact rfl); (case c4 => exact rfl); k_whole; intro g' L' h' FG' F' N' B' X' T'; (try dsimp only); (try k_lift B'); (try k_fold))
  (rename Fr _ _ _ _ => F1)
  have F2 : Fr _ _ _ (fun nm9 => List.lookup nm9 [(Str.ofString "eve", ev), (Str.ofString "year", .int g t1)]) := F1
  clear F1
  refine with_nd (by decide +kernel) ?_
  intro hND
  k_with_none
  k_with "exec If" => ((fail_if_success (with_reducible rename JMark => hJ)); (with_reducible show wpAny _ _ (exec (Stmt.If (Expr.Name _ _) _ _ _) _) _ _ _); k_dflt (refine' if_join (Str.ofString "jd") (if b = true then n - 1 else n) ?F ?N ?_ ?_; (case F => k_asm); (case N => k_asm); rotate_left; intro t9 h9 tk9 F9 N9; (try dsimp only); (try k_sweep); (try k_fold); rotate_left; intro hJ; (try k_fold)))
  k_steps
  k_with_none
  · refine joined_set ?_ rfl (by k_asm) (by k_asm)
    rw [if_pos (by assumption)]
  · refine joined_same ?_ (by repeat (first | with_reducible exact lk_hit | (with_reducible refine' lk_miss ?lkh ?_; (case lkh => decide +kernel)))) rfl (by k_asm) (by k_asm)
    simp only [*, if_false, reduceIte, Bool.false_eq_true]
  · exact con30_end hret (by k_asm) (by k_asm) rfl rfl rfl
theorem x_hanukkah (w : World) (g : Int) (ev : Value) (t1 : Tok) (hn : gyOk g 9 25 = none) : ConX0 w 128 11 [.int g t1, ev] := by
  refine ConX0.mk ?_
  unfold PW LO
  k_fill
  intros
  rename_i hret
  refine wpAny_call ?_
  (rename Fr _ _ _ _ => F0)
  have N0 := nil_of F0
  have hKD := kd_of F0
  k_dflt (refine' code_def ?k1 ?k2 ?k3 ?k4 ?k5 ?kA ?kF ?kK ?k6 ?k7 ?k8 ?k9 ?kB ?_ ?c2 ?c3 ?c4 ?c5; (case kA => exact rfl); (case kF => exact rfl); (case kK => assumption); (case k1 => k_asm); (case k2 => k_asm); (case k3 => k_asm); (case k4 => k_asm); (case k5 => k_asm); (case k6 => k_is); (case k7 => k_is); (case k8 => ktr_room); (case k9 => exact binds_K (by k_in) rfl (by k_is) rfl rfl rfl); (case c5 => decide); (case kB => exact locs rfl); (case c2 => exact rfl); (case c3 => exact rfl); (case c4 => exact rfl); k_whole; intro g' L' h' FG' F' N' B' X' T'; (try dsimp only); (try k_lift B'); (try k_fold))
  (rename Fr _ _ _ _ => F1)
  have F2 : Fr _ _ _ (fun nm9 => List.lookup nm9 [(Str.ofString "eve", ev), (Str.ofString "year", .int g t1)]) := F1
  clear F1
  refine with_nd (by decide +kernel) ?_
  intro hND
  k_steps
  all_goals (exact hret _ _ _ _ _ _ _ (by assumption) (by assumption) (by assumption) (by assumption))
theorem c_rosh_hashanah (w : World) (g n : Int) (ev : Value) (b : Bool) (t1 : Tok) (hv : EveV ev b) (hn : gyOk g 7 1 = some n) : Con30 w 144 11 [.int g t1, ev] (yF (eveF n b)) (mF (eveF n b)) (dF (eveF n b)) := by
  show Con30 w 144 11 [.int g t1, ev] (yF (if b = true then n - 1 else n)) (mF (if b = true then n - 1 else n)) (dF (if b = true then n - 1 else n))
  refine Con30.mk ?_
  unfold PW LO
  k_fill
  intros
  rename_i hret
  refine wpAny_call ?_
  (rename Fr _ _ _ _ => F0)
  have N0 := nil_of F0
  k_dflt (refine' code_def ?k1 ?k2 ?k3 ?k4 ?k5 ?kA ?kF ?kK ?k6 ?k7 ?k8 ?k9 ?kB ?_ ?c2 ?c3 ?c4 ?c5; (case kA => exact rfl); (case kF => exact rfl); (case kK => assumption); (case k1 => k_asm); (case k2 => k_asm); (case k3 => k_asm); (case k4 => k_asm); (case k5 => k_asm); (case k6 => k_is); (case k7 => k_is); (case k8 => ktr_room); (case k9 => exact binds_K (by k_in) rfl (by k_is) rfl rfl rfl); (case c5 => decide); (case kB => exact locs rfl); (case c2 => exact rfl); (case c3 => exact rfl); (case c4 => exact rfl); k_whole; intro g' L' h' FG' F' N' B' X' T'; (try dsimp only); (try k_lift B'); (try k_fold))
  (rename Fr _ _ _ _ => F1)
  have F2 : Fr _ _ _ (fun nm9 => List.lookup nm9 [(Str.ofString "eve", ev), (Str.ofString "year", .int g t1)]) := F1
  clear F1
  refine with_nd (by decide +kernel) ?_
  intro hND
  k_with_none
  k_with "exec If" => ((fail_if_success (with_reducible rename JMark => hJ)); (with_reducible show wpAny _ _ (exec (Stmt.If (Expr.Name _ _) _ _ _) _) _ _ _); k_dflt (refine' if_join (Str.ofString "jd") (if b = true then n - 1 else n) ?F ?N ?_ ?_; (case F => k_asm); (case N => k_asm); rotate_left; intro t9 h9 tk9 F9 N9; (try dsimp only); (try k_sweep); (try k_fold); rotate_left; intro hJ; (try k_fold)))
  k_steps
  k_with_none
  · refine joined_set ?_ rfl (by k_asm) (by k_asm)
    rw [if_pos (by assumption)]
  · refine joined_same ?_ (by repeat (first | with_reducible exact lk_hit | (with_reducible refine' lk_miss ?lkh ?_; (case lkh => decide +kernel)))) rfl (by k_asm) (by k_asm)
    simp only [*, if_false, reduceIte, Bool.false_eq_true]
  · exact con30_end hret (by k_asm) (by k_asm) rfl rfl rfl
theorem x_rosh_hashanah (w : World) (g : Int) (ev : Value) (t1 : Tok) (hn : gyOk g 7 1 = none) : ConX0 w 144 11 [.int g t1, ev] := by
  refine ConX0.mk ?_
  unfold PW LO
  k_fill
  intros
  rename_i hret
  refine wpAny_call ?_
  (rename Fr _ _ _ _ => F0)
  have N0 := nil_of F0
  have hKD := kd_of F0
  k_dflt (refine' code_def ?k1 ?k2 ?k3 ?k4 ?k5 ?kA ?kF ?kK ?k6 ?k7 ?k8 ?k9 ?kB ?_ ?c2 ?c3 ?c4 ?c5; (case kA => exact rfl); (case kF => exact rfl); (case kK => assumption); (case k1 => k_asm); (case k2 => k_asm); (case k3 => k_asm); (case k4 => k_asm); (case k5 => k_asm); (case k6 => k_is); (case k7 => k_is); (case k8 => ktr_room); (case k9 => exact binds_K (by k_in) rfl (by k_is) rfl rfl rfl); (case c5 => decide); (case kB => exact locs rfl); (case c2 => exact rfl); (case c3 => exact rfl); (case c4 => exact rfl); k_whole; intro g' L' h' FG' F' N' B' X' T'; (try dsimp only); (try k_lift B'); (try k_fold))
  (rename Fr _ _ _ _ => F1)
  have F2 : Fr _ _ _ (fun nm9 => List.lookup nm9 [(Str.ofString "eve", ev), (Str.ofString "year", .int g t1)]) := F1
  clear F1
  refine with_nd (by decide +kernel) ?_
  intro hND
  k_steps
  all_goals (exact hret _ _ _ _ _ _ _ (by assumption) (by assumption) (by assumption) (by assumption))
theorem c_yom_kippur (w : World) (g n : Int) (ev : Value) (b : Bool) (t1 : Tok) (hv : EveV ev b) (hn : gyOk g 7 10 = some n) : Con30 w 152 11 [.int g t1, ev] (yF (eveF n b)) (mF (eveF n b)) (dF (eveF n b)) := by
  show Con30 w 152 11 [.int g t1, ev] (yF (if b = true then n - 1 else n)) (mF (if b = true then n - 1 else n)) (dF (if b = true then n - 1 else n))
  refine Con30.mk ?_
  unfold PW LO
  k_fill
  intros
  rename_i hret
  refine wpAny_call ?_
  (rename Fr _ _ _ _ => F0)
  have N0 := nil_of F0
  k_dflt (refine' code_def ?k1 ?k2 ?k3 ?k4 ?k5 ?kA ?kF ?kK ?k6 ?k7 ?k8 ?k9 ?kB ?_ ?c2 ?c3 ?c4 ?c5; (case kA => exact rfl); (case kF => exact rfl); (case kK => assumption); (case k1 => k_asm); (case k2 => k_asm); (case k3 => k_asm); (case k4 => k_asm); (case k5 => k_asm); (case k6 => k_is); (case k7 => k_is); (case k8 => ktr_room); (case k9 => exact binds_K (by k_in) rfl (by k_is) rfl rfl rfl); (case c5 => decide); (case kB => exact locs rfl); (case c2 => exact rfl); (case c3 => exact rfl); (case c4 => exact rfl); k_whole; intro g' L' h' FG' F' N' B' X' T'; (try dsimp only); (try k_lift B'); (try k_fold))
  (rename Fr _ _ _ _ => F1)
  have F2 : Fr _ _ _ (fun nm9 => List.lookup nm9 [(Str.ofString "eve", ev), (Str.ofString "year", .int g t1)]) := F1
  clear F1
  refine with_nd (by decide +kernel) ?_
  intro hND
  k_with_none
  k_with "exec If" => ((fail_if_success (with_reducible rename JMark => hJ)); (with_reducible show wpAny _ _ (exec (Stmt.If (Expr.Name _ _) _ _ _) _) _ _ _); k_dflt (refine' if_join (Str.ofString "jd") (if b = true then n - 1 else n) ?F ?N ?_ ?_; (case F => k_asm); (case N => k_asm); rotate_left; intro t9 h9 tk9 F9 N9; (try dsimp only); (try k_sweep); (try k_fold); rotate_left; intro hJ; (try k_fold)))
  k_steps
  k_with_none
  · refine joined_set ?_ rfl (by k_asm) (by k_asm)
    rw [if_pos (by assumption)]
  · refine joined_same ?_ (by repeat (first | with_reducible exact lk_hit | (with_reducible refine' lk_miss ?lkh ?_; (case lkh => decide +kernel)))) rfl (by k_asm) (by k_asm)
    simp only [*, if_false, reduceIte, Bool.false_eq_true]
  · exact con30_end hret (by k_asm) (by k_asm) rfl rfl rfl
theorem x_yom_kippur (w : World) (g : Int) (ev : Value) (t1 : Tok) (hn : gyOk g 7 10 = none) : ConX0 w 152 11 [.int g t1, ev] := by
  refine ConX0.mk ?_
  unfold PW LO
  k_fill
  intros
  rename_i hret
  refine wpAny_call ?_
  (rename Fr _ _ _ _ => F0)
  have N0 := nil_of F0
  have hKD := kd_of F0
  k_dflt (refine' code_def ?k1 ?k2 ?k3 ?k4 ?k5 ?kA ?kF ?kK ?k6 ?k7 ?k8 ?k9 ?kB ?_ ?c2 ?c3 ?c4 ?c5; (case kA => exact rfl); (case kF => exact rfl); (case kK => assumption); (case k1 => k_asm); (case k2 => k_asm); (case k3 => k_asm); (case k4 => k_asm); (case k5 => k_asm); (case k6 => k_is); (case k7 => k_is); (case k8 => ktr_room); (case k9 => exact binds_K (by k_in) rfl (by k_is) rfl rfl rfl); (case c5 => decide); (case kB => exact locs rfl); (case c2 => exact rfl); (case c3 => exact rfl); (case c4 => exact rfl); k_whole; intro g' L' h' FG' F' N' B' X' T'; (try dsimp only); (try k_lift B'); (try k_fold))
  (rename Fr _ _ _ _ => F1)
  have F2 : Fr _ _ _ (fun nm9 => List.lookup nm9 [(Str.ofString "eve", ev), (Str.ofString "year", .int g t1)]) := F1
  clear F1
  refine with_nd (by decide +kernel) ?_
  intro hND
  k_steps
  all_goals (exact hret _ _ _ _ _ _ _ (by assumption) (by assumption) (by assumption) (by assumption))
theorem c_passover (w : World) (g n : Int) (ev : Value) (b : Bool) (t1 : Tok) (hv : EveV ev b) (hn : gyOk g 1 15 = some n) : Con30 w 160 11 [.int g t1, ev] (yF (eveF n b)) (mF (eveF n b)) (dF (eveF n b)) := by
  show Con30 w 160 11 [.int g t1, ev] (yF (if b = true then n - 1 else n)) (mF (if b = true then n - 1 else n)) (dF (if b = true then n - 1 else n))
  refine Con30.mk ?_
  unfold PW LO
  k_fill
  intros
  rename_i hret
  refine wpAny_call ?_
  (rename Fr _ _ _ _ => F0)
  have N0 := nil_of F0
  k_dflt (refine' code_def ?k1 ?k2 ?k3 ?k4 ?k5 ?kA ?kF ?kK ?k6 ?k7 ?k8 ?k9 ?kB ?_ ?c2 ?c3 ?c4 ?c5; (case kA => exact rfl); (case kF => exact rfl); (case kK => assumption); (case k1 => k_asm); (case k2 => k_asm); (case k3 => k_asm); (case k4 => k_asm); (case k5 => k_asm); (case k6 => k_is); (case k7 => k_is); (case k8 => ktr_room); (case k9 => exact binds_K (by k_in) rfl (by k_is) rfl rfl rfl); (case c5 => decide); (case kB => exact locs rfl); (case c2 => exact rfl); (case c3 => exact rfl); (case c4 => exact rfl); k_whole; intro g' L' h' FG' F' N' B' X' T'; (try dsimp only); (try k_lift B'); (try k_fold))
  (rename Fr _ _ _ _ => F1)
  have F2 : Fr _ _ _ (fun nm9 => List.lookup nm9 [(Str.ofString "eve", ev), (Str.ofString "year", .int g t1)]) := F1
  clear F1
  refine with_nd (by decide +kernel) ?_
  intro hND
  k_with_none
  k_with "exec If" => ((fail_if_success (with_reducible rename JMark => hJ)); (with_reducible show wpAny _ _ (exec (Stmt.If (Expr.Name _ _) _ _ _) _) _ _ _); k_dflt (refine' if_join (Str.ofString "jd") (if b = true then n - 1 else n) ?F ?N ?_ ?_; (case F => k_asm); (case N => k_asm); rotate_left; intro t9 h9 tk9 F9 N9; (try dsimp only); (try k_sweep); (try k_fold); rotate_left; intro hJ; (try k_fold)))
  k_steps
  k_with_none
  · refine joined_set ?_ rfl (by k_asm) (by k_asm)
    rw [if_pos (by assumption)]
  · refine joined_same ?_ (by repeat (first | with_reducible exact lk_hit | (with_reducible refine' lk_miss ?lkh ?_; (case lkh => decide +kernel)))) rfl (by k_asm) (by k_asm)
    simp only [*, if_false, reduceIte, Bool.false_eq_true]
  · exact con30_end hret (by k_asm) (by k_asm) rfl rfl rfl
theorem x_passover (w : World) (g : Int) (ev : Value) (t1 : Tok) (hn : gyOk g 1 15 = none) : ConX0 w 160 11 [.int g t1, ev] := by
  refine ConX0.mk ?_
  unfold PW LO
  k_fill
  intros
  rename_i hret
  refine wpAny_call ?_
  (rename Fr _ _ _ _ => F0)
  have N0 := nil_of F0
  have hKD := kd_of F0
  k_dflt (refine' code_def ?k1 ?k2 ?k3 ?k4 ?k5 ?kA ?kF ?kK ?k6 ?k7 ?k8 ?k9 ?kB ?_ ?c2 ?c3 ?c4 ?c5; (case kA => exact rfl); (case kF => exact rfl); (case kK => assumption); (case k1 => k_asm); (case k2 => k_asm); (case k3 => k_asm); (case k4 => k_asm); (case k5 => k_asm); (case k6 => k_is); (case k7 => k_is); (case k8 => ktr_room); (case k9 => exact binds_K (by k_in) rfl (by k_is) rfl rfl rfl); (case c5 => decide); (case kB => exact locs rfl); (case c2 => exact rfl); (case c3 => exact rfl); (case c4 => exact rfl); k_whole; intro g' L' h' FG' F' N' B' X' T'; (try dsimp only); (try k_lift B'); (try k_fold))
  (rename Fr _ _ _ _ => F1)
  have F2 : Fr _ _ _ (fun nm9 => List.lookup nm9 [(Str.ofString "eve", ev), (Str.ofString "year", .int g t1)]) := F1
  clear F1
  refine with_nd (by decide +kernel) ?_
  intro hND
  k_steps
  all_goals (exact hret _ _ _ _ _ _ _ (by assumption) (by assumption) (by assumption) (by assumption))
theorem c_shavuot (w : World) (g n : Int) (ev : Value) (b : Bool) (t1 : Tok) (hv : EveV ev b) (hn : gyOk g 3 6 = some n) : Con30 w 168 11 [.int g t1, ev] (yF (eveF n b)) (mF (eveF n b)) (dF (eveF n b)) := by
  show Con30 w 168 11 [.int g t1, ev] (yF (if b = true then n - 1 else n)) (mF (if b = true then n - 1 else n)) (dF (if b = true then n - 1 else n))
  refine Con30.mk ?_
  unfold PW LO
  k_fill
  intros
  rename_i hret
  refine wpAny_call ?_
  (rename Fr _ _ _ _ => F0)
  have N0 := nil_of F0
  k_dflt (refine' code_def ?k1 ?k2 ?k3 ?k4 ?k5 ?kA ?kF ?kK ?k6 ?k7 ?k8 ?k9 ?kB ?_ ?c2 ?c3 ?c4 ?c5; (case kA => exact rfl); (case kF => exact rfl); (case kK => assumption); (case k1 => k_asm); (case k2 => k_asm); (case k3 => k_asm); (case k4 => k_asm); (case k5 => k_asm); (case k6 => k_is); (case k7 => k_is); (case k8 => ktr_room); (case k9 => exact binds_K (by k_in) rfl (by k_is) rfl rfl rfl); (case c5 => decide); (case kB => exact locs rfl); (case c2 => exact rfl); (case c3 => exact rfl); (case c4 => exact rfl); k_whole; intro g' L' h' FG' F' N' B' X' T'; (try dsimp only); (try k_lift B'); (try k_fold))
  (rename Fr _ _ _ _ => F1)
  have F2 : Fr _ _ _ (fun nm9 => List.lookup nm9 [(Str.ofString "eve", ev), (Str.ofString "year", .int g t1)]) := F1
  clear F1
  refine with_nd (by decide +kernel) ?_
  intro hND
  k_with_none
  k_with "exec If" => ((fail_if_success (with_reducible rename JMark => hJ)); (with_reducible show wpAny _ _ (exec (Stmt.If (Expr.Name _ _) _ _ _) _) _ _ _); k_dflt (refine' if_join (Str.ofString "jd") (if b = true then n - 1 else n) ?F ?N ?_ ?_; (case F => k_asm); (case N => k_asm); rotate_left; intro t9 h9 tk9 F9 N9; (try dsimp only); (try k_sweep); (try k_fold); rotate_left; intro hJ; (try k_fold)))
  k_steps
  k_with_none
  · refine joined_set ?_ rfl (by k_asm) (by k_asm)
    rw [if_pos (by assumption)]
  · refine joined_same ?_ (by repeat (first | with_reducible exact lk_hit | (with_reducible refine' lk_miss ?lkh ?_; (case lkh => decide +kernel)))) rfl (by k_asm) (by k_asm)
    simp only [*, if_false, reduceIte, Bool.false_eq_true]
  · exact con30_end hret (by k_asm) (by k_asm) rfl rfl rfl
theorem x_shavuot (w : World) (g : Int) (ev : Value) (t1 : Tok) (hn : gyOk g 3 6 = none) : ConX0 w 168 11 [.int g t1, ev] := by
  refine ConX0.mk ?_
  unfold PW LO
  k_fill
  intros
  rename_i hret
  refine wpAny_call ?_
  (rename Fr _ _ _ _ => F0)
  have N0 := nil_of F0
  have hKD := kd_of F0
  k_dflt (refine' code_def ?k1 ?k2 ?k3 ?k4 ?k5 ?kA ?kF ?kK ?k6 ?k7 ?k8 ?k9 ?kB ?_ ?c2 ?c3 ?c4 ?c5; (case kA => exact rfl); (case kF => exact rfl); (case kK => assumption); (case k1 => k_asm); (case k2 => k_asm); (case k3 => k_asm); (case k4 => k_asm); (case k5 => k_asm); (case k6 => k_is); (case k7 => k_is); (case k8 => ktr_room); (case k9 => exact binds_K (by k_in) rfl (by k_is) rfl rfl rfl); (case c5 => decide); (case kB => exact locs rfl); (case c2 => exact rfl); (case c3 => exact rfl); (case c4 => exact rfl); k_whole; intro g' L' h' FG' F' N' B' X' T'; (try dsimp only); (try k_lift B'); (try k_fold))
  (rename Fr _ _ _ _ => F1)
  have F2 : Fr _ _ _ (fun nm9 => List.lookup nm9 [(Str.ofString "eve", ev), (Str.ofString "year", .int g t1)]) := F1
  clear F1
  refine with_nd (by decide +kernel) ?_
  intro hND
  k_steps
  all_goals (exact hret _ _ _ _ _ _ _ (by assumption) (by assumption) (by assumption) (by assumption))
theorem c_sukkot (w : World) (g n : Int) (ev : Value) (b : Bool) (t1 : Tok) (hv : EveV ev b) (hn : gyOk g 7 15 = some n) : Con30 w 176 11 [.int g t1, ev] (yF (eveF n b)) (mF (eveF n b)) (dF (eveF n b)) := by
  show Con30 w 176 11 [.int g t1, ev] (yF (if b = true then n - 1 else n)) (mF (if b = true then n - 1 else n)) (dF (if b = true then n - 1 else n))
  refine Con30.mk ?_
  unfold PW LO
  k_fill
  intros
  rename_i hret
  refine wpAny_call ?_
  (rename Fr _ _ _ _ => F0)
  have N0 := nil_of F0
  k_dflt (refine' code_def ?k1 ?k2 ?k3 ?k4 ?k5 ?kA ?kF ?kK ?k6 ?k7 ?k8 ?k9 ?kB ?_ ?c2 ?c3 ?c4 ?c5; (case kA => exact rfl); (case kF => exact rfl); (case kK => assumption); (case k1 => k_asm); (case k2 => k_asm); (case k3 => k_asm); (case k4 => k_asm); (case k5 => k_asm); (case k6 => k_is); (case k7 => k_is); (case k8 => ktr_room); (case k9 => exact binds_K (by k_in) rfl (by k_is) rfl rfl rfl); (case c5 => decide); (case kB => exact locs rfl); (case c2 => exact rfl); (case c3 => exact rfl); (case c4 => exact rfl); k_whole; intro g' L' h' FG' F' N' B' X' T'; (try dsimp only); (try k_lift B'); (try k_fold))
  (rename Fr _ _ _ _ => F1)
  have F2 : Fr _ _ _ (fun nm9 => List.lookup nm9 [(Str.ofString "eve", ev), (Str.ofString "year", .int g t1)]) := F1
  clear F1
  refine with_nd (by decide +kernel) ?_
  intro hND
  k_with_none
  k_with "exec If" => ((fail_if_success (with_reducible rename JMark => hJ)); (with_reducible show wpAny _ _ (exec (Stmt.If (Expr.Name _ _) _ _ _) _) _ _ _); k_dflt (refine' if_join (Str.ofString "jd") (if b = true then n - 1 else n) ?F ?N ?_ ?_; (case F => k_asm); (case N => k_asm); rotate_left; intro t9 h9 tk9 F9 N9; (try dsimp only); (try k_sweep); (try k_fold); rotate_left; intro hJ; (try k_fold)))
  k_steps
  k_with_none
  · refine joined_set ?_ rfl (by k_asm) (by k_asm)
    rw [if_pos (by assumption)]
  · refine joined_same ?_ (by repeat (first | with_reducible exact lk_hit | (with_reducible refine' lk_miss ?lkh ?_; (case lkh => decide +kernel)))) rfl (by k_asm) (by k_asm)
    simp only [*, if_false, reduceIte, Bool.false_eq_true]
  · exact con30_end hret (by k_asm) (by k_asm) rfl rfl rfl
theorem x_sukkot (w : World) (g : Int) (ev : Value) (t1 : Tok) (hn : gyOk g 7 15 = none) : ConX0 w 176 11 [.int g t1, ev] := by
  refine ConX0.mk ?_
  unfold PW LO
  k_fill
  intros
  rename_i hret
  refine wpAny_call ?_
  (rename Fr _ _ _ _ => F0)
  have N0 := nil_of F0
  have hKD := kd_of F0
  k_dflt (refine' code_def ?k1 ?k2 ?k3 ?k4 ?k5 ?kA ?kF ?kK ?k6 ?k7 ?k8 ?k9 ?kB ?_ ?c2 ?c3 ?c4 ?c5; (case kA => exact rfl); (case kF => exact rfl); (case kK => assumption); (case k1 => k_asm); (case k2 => k_asm); (case k3 => k_asm); (case k4 => k_asm); (case k5 => k_asm); (case k6 => k_is); (case k7 => k_is); (case k8 => ktr_room); (case k9 => exact binds_K (by k_in) rfl (by k_is) rfl rfl rfl); (case c5 => decide); (case kB => exact locs rfl); (case c2 => exact rfl); (case c3 => exact rfl); (case c4 => exact rfl); k_whole; intro g' L' h' FG' F' N' B' X' T'; (try dsimp only); (try k_lift B'); (try k_fold))
  (rename Fr _ _ _ _ => F1)
  have F2 : Fr _ _ _ (fun nm9 => List.lookup nm9 [(Str.ofString "eve", ev), (Str.ofString "year", .int g t1)]) := F1
  clear F1
  refine with_nd (by decide +kernel) ?_
  intro hND
  k_steps
  all_goals (exact hret _ _ _ _ _ _ _ (by assumption) (by assumption) (by assumption) (by assumption))
theorem c_shemini_azeret (w : World) (g n : Int) (ev : Value) (b : Bool) (t1 : Tok) (hv : EveV ev b) (hn : gyOk g 7 22 = some n) : Con30 w 184 11 [.int g t1, ev] (yF (eveF n b)) (mF (eveF n b)) (dF (eveF n b)) := by
  show Con30 w 184 11 [.int g t1, ev] (yF (if b = true then n - 1 else n)) (mF (if b = true then n - 1 else n)) (dF (if b = true then n - 1 else n))
  refine Con30.mk ?_
  unfold PW LO
  k_fill
  intros
  rename_i hret
  refine wpAny_call ?_
  (rename Fr _ _ _ _ => F0)
  have N0 := nil_of F0
  k_dflt (refine' code_def ?k1 ?k2 ?k3 ?k4 ?k5 ?kA ?kF ?kK ?k6 ?k7 ?k8 ?k9 ?kB ?_ ?c2 ?c3 ?c4 ?c5; (case kA => exact rfl); (case kF => exact rfl); (case kK => assumption); (case k1 => k_asm); (case k2 => k_asm); (case k3 => k_asm); (case k4 => k_asm); (case k5 => k_asm); (case k6 => k_is); (case k7 => k_is); (case k8 => ktr_room); (case k9 => exact binds_K (by k_in) rfl (by k_is) rfl rfl rfl); (case c5 => decide); (case kB => exact locs rfl); (case c2 => exact rfl); (case c3 => exact rfl); (case c4 => exact rfl); k_whole; intro g' L' h' FG' F' N' B' X' T'; (try dsimp only); (try k_lift B'); (try k_fold))
  (rename Fr _ _ _ _ => F1)
  have F2 : Fr _ _ _ (fun nm9 => List.lookup nm9 [(Str.ofString "eve", ev), (Str.ofString "year", .int g t1)]) := F1
  clear F1
  refine with_nd (by decide +kernel) ?_
  intro hND
  k_with_none
  k_with "exec If" => ((fail_if_success (with_reducible rename JMark => hJ)); (with_reducible show wpAny _ _ (exec (Stmt.If (Expr.Name _ _) _ _ _) _) _ _ _); k_dflt (refine' if_join (Str.ofString "jd") (if b = true then n - 1 else n) ?F ?N ?_ ?_; (case F => k_asm); (case N => k_asm); rotate_left; intro t9 h9 tk9 F9 N9; (try dsimp only); (try k_sweep); (try k_fold); rotate_left; intro hJ; (try k_fold)))
  k_steps
  k_with_none
  · refine joined_set ?_ rfl (by k_asm) (by k_asm)
    rw [if_pos (by assumption)]
  · refine joined_same ?_ (by repeat (first | with_reducible exact lk_hit | (with_reducible refine' lk_miss ?lkh ?_; (case lkh => decide +kernel)))) rfl (by k_asm) (by k_asm)
    simp only [*, if_false, reduceIte, Bool.false_eq_true]
  · exact con30_end hret (by k_asm) (by k_asm) rfl rfl rfl
theorem x_shemini_azeret (w : World) (g : Int) (ev : Value) (t1 : Tok) (hn : gyOk g 7 22 = none) : ConX0 w 184 11 [.int g t1, ev] := by
  refine ConX0.mk ?_
  unfold PW LO
  k_fill
  intros
  rename_i hret
  refine wpAny_call ?_
  (rename Fr _ _ _ _ => F0)
  have N0 := nil_of F0
  have hKD := kd_of F0
  k_dflt (refine' code_def ?k1 ?k2 ?k3 ?k4 ?k5 ?kA ?kF ?kK ?k6 ?k7 ?k8 ?k9 ?kB ?_ ?c2 ?c3 ?c4 ?c5; (case kA => exact rfl); (case kF => exact rfl); (case kK => assumption); (case k1 => k_asm); (case k2 => k_asm); (case k3 => k_asm); (case k4 => k_asm); (case k5 => k_asm); (case k6 => k_is); (case k7 => k_is); (case k8 => ktr_room); (case k9 => exact binds_K (by k_in) rfl (by k_is) rfl rfl rfl); (case c5 => decide); (case kB => exact locs rfl); (case c2 => exact rfl); (case c3 => exact rfl); (case c4 => exact rfl); k_whole; intro g' L' h' FG' F' N' B' X' T'; (try dsimp only); (try k_lift B'); (try k_fold))
  (rename Fr _ _ _ _ => F1)
  have F2 : Fr _ _ _ (fun nm9 => List.lookup nm9 [(Str.ofString "eve", ev), (Str.ofString "year", .int g t1)]) := F1
  clear F1
  refine with_nd (by decide +kernel) ?_
  intro hND
  k_steps
  all_goals (exact hret _ _ _ _ _ _ _ (by assumption) (by assumption) (by assumption) (by assumption))
theorem c_lag_baomer (w : World) (g n : Int) (ev : Value) (b : Bool) (t1 : Tok) (hv : EveV ev b) (hn : gyOk g 2 18 = some n) : Con30 w 192 11 [.int g t1, ev] (yF (eveF n b)) (mF (eveF n b)) (dF (eveF n b)) := by
  show Con30 w 192 11 [.int g t1, ev] (yF (if b = true then n - 1 else n)) (mF (if b = true then n - 1 else n)) (dF (if b = true then n - 1 else n))
  refine Con30.mk ?_
  unfold PW LO
  k_fill
  intros
  rename_i hret
  refine wpAny_call ?_
  (rename Fr _ _ _ _ => F0)
  have N0 := nil_of F0
  k_dflt (refine' code_def ?k1 ?k2 ?k3 ?k4 ?k5 ?kA ?kF ?kK ?k6 ?k7 ?k8 ?k9 ?kB ?_ ?c2 ?c3 ?c4 ?c5; (case kA => exact rfl); (case kF => exact rfl); (case kK => assumption); (case k1 => k_asm); (case k2 => k_asm); (case k3 => k_asm); (case k4 => k_asm); (case k5 => k_asm); (case k6 => k_is); (case k7 => k_is); (case k8 => ktr_room); (case k9 => exact binds_K (by k_in) rfl (by k_is) rfl rfl rfl); (case c5 => decide); (case kB => exact locs rfl); (case c2 => exact rfl); (case c3 => exact rfl); (case c4 => exact rfl); k_whole; intro g' L' h' FG' F' N' B' X' T'; (try dsimp only); (try k_lift B'); (try k_fold))
  (rename Fr _ _ _ _ => F1)
  have F2 : Fr _ _ _ (fun nm9 => List.lookup nm9 [(Str.ofString "eve", ev), (Str.ofString "year", .int g t1)]) := F1
  clear F1
  refine with_nd (by decide +kernel) ?_
  intro hND
  k_with_none
  k_with "exec If" => ((fail_if_success (with_reducible rename JMark => hJ)); (with_reducible show wpAny _ _ (exec (Stmt.If (Expr.Name _ _) _ _ _) _) _ _ _); k_dflt (refine' if_join (Str.ofString "jd") (if b = true then n - 1 else n) ?F ?N ?_ ?_; (case F => k_asm); (case N => k_asm); rotate_left; intro t9 h9 tk9 F9 N9; (try dsimp only); (try k_sweep); (try k_fold); rotate_left; intro hJ; (try k_fold)))
  k_steps
  k_with_none
  · refine joined_set ?_ rfl (by k_asm) (by k_asm)
    rw [if_pos (by assumption)]
  · refine joined_same ?_ (by repeat (first | with_reducible exact lk_hit | (with_reducible refine' lk_miss ?lkh ?_; (case lkh => decide +kernel)))) rfl (by k_asm) (by k_asm)
    simp only [*, if_false, reduceIte, Bool.false_eq_true]
  · exact con30_end hret (by k_asm) (by k_asm) rfl rfl rfl
theorem x_lag_baomer (w : World) (g : Int) (ev : Value) (t1 : Tok) (hn : gyOk g 2 18 = none) : ConX0 w 192 11 [.int g t1, ev] := by
  refine ConX0.mk ?_
  unfold PW LO
  k_fill
  intros
  rename_i hret
  refine wpAny_call ?_
  (rename Fr _ _ _ _ => F0)
  have N0 := nil_of F0
  have hKD := kd_of F0
  k_dflt (refine' code_def ?k1 ?k2 ?k3 ?k4 ?k5 ?kA ?kF ?kK ?k6 ?k7 ?k8 ?k9 ?kB ?_ ?c2 ?c3 ?c4 ?c5; (case kA => exact rfl); (case kF => exact rfl); (case kK => assumption); (case k1 => k_asm); (case k2 => k_asm); (case k3 => k_asm); (case k4 => k_asm); (case k5 => k_asm); (case k6 => k_is); (case k7 => k_is); (case k8 => ktr_room); (case k9 => exact binds_K (by k_in) rfl (by k_is) rfl rfl rfl); (case c5 => decide); (case kB => exact locs rfl); (case c2 => exact rfl); (case c3 => exact rfl); (case c4 => exact rfl); k_whole; intro g' L' h' FG' F' N' B' X' T'; (try dsimp only); (try k_lift B'); (try k_fold))
  (rename Fr _ _ _ _ => F1)
  have F2 : Fr _ _ _ (fun nm9 => List.lookup nm9 [(Str.ofString "eve", ev), (Str.ofString "year", .int g t1)]) := F1
  clear F1
  refine with_nd (by decide +kernel) ?_
  intro hND
  k_steps
  all_goals (exact hret _ _ _ _ _ _ _ (by assumption) (by assumption) (by assumption) (by assumption))
theorem c_tu_beshvat (w : World) (g n : Int) (ev : Value) (b : Bool) (t1 : Tok) (hv : EveV ev b) (hn : gyOk g 11 15 = some n) : Con30 w 200 11 [.int g t1, ev] (yF (eveF n b)) (mF (eveF n b)) (dF (eveF n b)) := by
  show Con30 w 200 11 [.int g t1, ev] (yF (if b = true then n - 1 else n)) (mF (if b = true then n - 1 else n)) (dF (if b = true then n - 1 else n))
  refine Con30.mk ?_
  unfold PW LO
  k_fill
  intros
  rename_i hret
  refine wpAny_call ?_
  (rename Fr _ _ _ _ => F0)
  have N0 := nil_of F0
  k_dflt (refine' code_def ?k1 ?k2 ?k3 ?k4 ?k5 ?kA ?kF ?kK ?k6 ?k7 ?k8 ?k9 ?kB ?_ ?c2 ?c3 ?c4 ?c5; (case kA => exact rfl); (case kF => exact rfl); (case kK => assumption); (case k1 => k_asm); (case k2 => k_asm); (case k3 => k_asm); (case k4 => k_asm); (case k5 => k_asm); (case k6 => k_is); (case k7 => k_is); (case k8 => ktr_room); (case k9 => exact binds_K (by k_in) rfl (by k_is) rfl rfl rfl); (case c5 => decide); (case kB => exact locs rfl); (case c2 => exact rfl); (case c3 => exact rfl); (case c4 => exact rfl); k_whole; intro g' L' h' FG' F' N' B' X' T'; (try dsimp only); (try k_lift B'); (try k_fold))
  (rename Fr _ _ _ _ => F1)
  have F2 : Fr _ _ _ (fun nm9 => List.lookup nm9 [(Str.ofString "eve", ev), (Str.ofString "year", .int g t1)]) := F1
  clear F1
  refine with_nd (by decide +kernel) ?_
  intro hND
  k_with_none
  k_with "exec If" => ((fail_if_success (with_reducible rename JMark => hJ)); (with_reducible show wpAny _ _ (exec (Stmt.If (Expr.Name _ _) _ _ _) _) _ _ _); k_dflt (refine' if_join (Str.ofString "jd") (if b = true then n - 1 else n) ?F ?N ?_ ?_; (case F => k_asm); (case N => k_asm); rotate_left; intro t9 h9 tk9 F9 N9; (try dsimp only); (try k_sweep); (try k_fold); rotate_left; intro hJ; (try k_fold)))
  k_steps
  k_with_none
  · refine joined_set ?_ rfl (by k_asm) (by k_asm)
    rw [if_pos (by assumption)]
  · refine joined_same ?_ (by repeat (first | with_reducible exact lk_hit | (with_reducible refine' lk_miss ?lkh ?_; (case lkh => decide +kernel)))) rfl (by k_asm) (by k_asm)
    simp only [*, if_false, reduceIte, Bool.false_eq_true]
  · exact con30_end hret (by k_asm) (by k_asm) rfl rfl rfl
theorem x_tu_beshvat (w : World) (g : Int) (ev : Value) (t1 : Tok) (hn : gyOk g 11 15 = none) : ConX0 w 200 11 [.int g t1, ev] := by
  refine ConX0.mk ?_
  unfold PW LO
  k_fill
  intros
  rename_i hret
  refine wpAny_call ?_
  (rename Fr _ _ _ _ => F0)
  have N0 := nil_of F0
  have hKD := kd_of F0
  k_dflt (refine' code_def ?k1 ?k2 ?k3 ?k4 ?k5 ?kA ?kF ?kK ?k6 ?k7 ?k8 ?k9 ?kB ?_ ?c2 ?c3 ?c4 ?c5; (case kA => exact rfl); (case kF => exact rfl); (case kK => assumption); (case k1 => k_asm); (case k2 => k_asm); (case k3 => k_asm); (case k4 => k_asm); (case k5 => k_asm); (case k6 => k_is); (case k7 => k_is); (case k8 => ktr_room); (case k9 => exact binds_K (by k_in) rfl (by k_is) rfl rfl rfl); (case c5 => decide); (case kB => exact locs rfl); (case c2 => exact rfl); (case c3 => exact rfl); (case c4 => exact rfl); k_whole; intro g' L' h' FG' F' N' B' X' T'; (try dsimp only); (try k_lift B'); (try k_fold))
  (rename Fr _ _ _ _ => F1)
  have F2 : Fr _ _ _ (fun nm9 => List.lookup nm9 [(Str.ofString "eve", ev), (Str.ofString "year", .int g t1)]) := F1
  clear F1
  refine with_nd (by decide +kernel) ?_
  intro hND
  k_steps
  all_goals (exact hret _ _ _ _ _ _ _ (by assumption) (by assumption) (by assumption) (by assumption))
theorem c_purim_false (w : World) (g n : Int) (ev : Value) (b : Bool) (t1 : Tok) (hl : leapF (g + 3760) = false) (hv : EveV ev b) (hn : gyOk g 12 14 = some n) : Con30 w 136 11 [.int g t1, ev] (yF (eveF n b)) (mF (eveF n b)) (dF (eveF n b)) := by
  show Con30 w 136 11 [.int g t1, ev] (yF (if b = true then n - 1 else n)) (mF (if b = true then n - 1 else n)) (dF (if b = true then n - 1 else n))
  refine Con30.mk ?_
  unfold PW LO
  k_fill
  intros
  rename_i hret
  refine wpAny_call ?_
  (rename Fr _ _ _ _ => F0)
  have N0 := nil_of F0
  k_dflt (refine' code_def ?k1 ?k2 ?k3 ?k4 ?k5 ?kA ?kF ?kK ?k6 ?k7 ?k8 ?k9 ?kB ?_ ?c2 ?c3 ?c4 ?c5; (case kA => exact rfl); (case kF => exact rfl); (case kK => assumption); (case k1 => k_asm); (case k2 => k_asm); (case k3 => k_asm); (case k4 => k_asm); (case k5 => k_asm); (case k6 => k_is); (case k7 => k_is); (case k8 => ktr_room); (case k9 => exact binds_K (by k_in) rfl (by k_is) rfl rfl rfl); (case c5 => decide); (case kB => exact locs rfl); (case c2 => exact rfl); (case c3 => exact rfl); (case c4 => exact rfl); k_whole; intro g' L' h' FG' F' N' B' X' T'; (try dsimp only); (try k_lift B'); (try k_fold))
  (rename Fr _ _ _ _ => F1)
  have F2 : Fr _ _ _ (fun nm9 => List.lookup nm9 [(Str.ofString "eve", ev), (Str.ofString "year", .int g t1)]) := F1
  clear F1
  refine with_nd (by decide +kernel) ?_
  intro hND
  k_with_none
  k_with "exec If" => ((fail_if_success (with_reducible rename JMark => hJ)); (with_reducible show wpAny _ _ (exec (Stmt.If (Expr.Name _ _) _ _ _) _) _ _ _); k_dflt (refine' if_join (Str.ofString "jd") (if b = true then n - 1 else n) ?F ?N ?_ ?_; (case F => k_asm); (case N => k_asm); rotate_left; intro t9 h9 tk9 F9 N9; (try dsimp only); (try k_sweep); (try k_fold); rotate_left; intro hJ; (try k_fold)))
  k_steps
  k_with_none
  · refine joined_set ?_ rfl (by k_asm) (by k_asm)
    rw [if_pos (by assumption)]
  · refine joined_same ?_ (by repeat (first | with_reducible exact lk_hit | (with_reducible refine' lk_miss ?lkh ?_; (case lkh => decide +kernel)))) rfl (by k_asm) (by k_asm)
    simp only [*, if_false, reduceIte, Bool.false_eq_true]
  · exact con30_end hret (by k_asm) (by k_asm) rfl rfl rfl
theorem x_purim_false (w : World) (g : Int) (ev : Value) (t1 : Tok) (hl : leapF (g + 3760) = false) (hn : gyOk g 12 14 = none) : ConX0 w 136 11 [.int g t1, ev] := by
  refine ConX0.mk ?_
  unfold PW LO
  k_fill
  intros
  rename_i hret
  refine wpAny_call ?_
  (rename Fr _ _ _ _ => F0)
  have N0 := nil_of F0
  have hKD := kd_of F0
  k_dflt (refine' code_def ?k1 ?k2 ?k3 ?k4 ?k5 ?kA ?kF ?kK ?k6 ?k7 ?k8 ?k9 ?kB ?_ ?c2 ?c3 ?c4 ?c5; (case kA => exact rfl); (case kF => exact rfl); (case kK => assumption); (case k1 => k_asm); (case k2 => k_asm); (case k3 => k_asm); (case k4 => k_asm); (case k5 => k_asm); (case k6 => k_is); (case k7 => k_is); (case k8 => ktr_room); (case k9 => exact binds_K (by k_in) rfl (by k_is) rfl rfl rfl); (case c5 => decide); (case kB => exact locs rfl); (case c2 => exact rfl); (case c3 => exact rfl); (case c4 => exact rfl); k_whole; intro g' L' h' FG' F' N' B' X' T'; (try dsimp only); (try k_lift B'); (try k_fold))
  (rename Fr _ _ _ _ => F1)
  have F2 : Fr _ _ _ (fun nm9 => List.lookup nm9 [(Str.ofString "eve", ev), (Str.ofString "year", .int g t1)]) := F1
  clear F1
  refine with_nd (by decide +kernel) ?_
  intro hND
  k_steps
  all_goals (exact hret _ _ _ _ _ _ _ (by assumption) (by assumption) (by assumption) (by assumption))
theorem c_purim_true (w : World) (g n : Int) (ev : Value) (b : Bool) (t1 : Tok) (hl : leapF (g + 3760) = true) (hv : EveV ev b) (hn : gyOk g 13 14 = some n) : Con30 w 136 11 [.int g t1, ev] (yF (eveF n b)) (mF (eveF n b)) (dF (eveF n b)) := by
  show Con30 w 136 11 [.int g t1, ev] (yF (if b = true then n - 1 else n)) (mF (if b = true then n - 1 else n)) (dF (if b = true then n - 1 else n))
  refine Con30.mk ?_
  unfold PW LO
  k_fill
  intros
  rename_i hret
  refine wpAny_call ?_
  (rename Fr _ _ _ _ => F0)
  have N0 := nil_of F0
  k_dflt (refine' code_def ?k1 ?k2 ?k3 ?k4 ?k5 ?kA ?kF ?kK ?k6 ?k7 ?k8 ?k9 ?kB ?_ ?c2 ?c3 ?c4 ?c5; (case kA => exact rfl); (case kF => exact rfl); (case kK => assumption); (case k1 => k_asm); (case k2 => k_asm); (case k3 => k_asm); (case k4 => k_asm); (case k5 => k_asm); (case k6 => k_is); (case k7 => k_is); (case k8 => ktr_room); (case k9 => exact binds_K (by k_in) rfl (by k_is) rfl rfl rfl); (case c5 => decide); (case kB => exact locs rfl); (case c2 => exact rfl); (case c3 => exact rfl); (case c4 => exact rfl); k_whole; intro g' L' h' FG' F' N' B' X' T'; (try dsimp only); (try k_lift B'); (try k_fold))
  (rename Fr _ _ _ _ => F1)
  have F2 : Fr _ _ _ (fun nm9 => List.lookup nm9 [(Str.ofString "eve", ev), (Str.ofString "year", .int g t1)]) := F1
  clear F1
  refine with_nd (by decide +kernel) ?_
  intro hND
  k_with_none
  k_with "exec If" => ((fail_if_success (with_reducible rename JMark => hJ)); (with_reducible show wpAny _ _ (exec (Stmt.If (Expr.Name _ _) _ _ _) _) _ _ _); k_dflt (refine' if_join (Str.ofString "jd") (if b = true then n - 1 else n) ?F ?N ?_ ?_; (case F => k_asm); (case N => k_asm); rotate_left; intro t9 h9 tk9 F9 N9; (try dsimp only); (try k_sweep); (try k_fold); rotate_left; intro hJ; (try k_fold)))
  k_steps
  k_with_none
  · refine joined_set ?_ rfl (by k_asm) (by k_asm)
    rw [if_pos (by assumption)]
  · refine joined_same ?_ (by repeat (first | with_reducible exact lk_hit | (with_reducible refine' lk_miss ?lkh ?_; (case lkh => decide +kernel)))) rfl (by k_asm) (by k_asm)
    simp only [*, if_false, reduceIte, Bool.false_eq_true]
  · exact con30_end hret (by k_asm) (by k_asm) rfl rfl rfl
theorem x_purim_true (w : World) (g : Int) (ev : Value) (t1 : Tok) (hl : leapF (g + 3760) = true) (hn : gyOk g 13 14 = none) : ConX0 w 136 11 [.int g t1, ev] := by
  refine ConX0.mk ?_
  unfold PW LO
  k_fill
  intros
  rename_i hret
  refine wpAny_call ?_
  (rename Fr _ _ _ _ => F0)
  have N0 := nil_of F0
  have hKD := kd_of F0
  k_dflt (refine' code_def ?k1 ?k2 ?k3 ?k4 ?k5 ?kA ?kF ?kK ?k6 ?k7 ?k8 ?k9 ?kB ?_ ?c2 ?c3 ?c4 ?c5; (case kA => exact rfl); (case kF => exact rfl); (case kK => assumption); (case k1 => k_asm); (case k2 => k_asm); (case k3 => k_asm); (case k4 => k_asm); (case k5 => k_asm); (case k6 => k_is); (case k7 => k_is); (case k8 => ktr_room); (case k9 => exact binds_K (by k_in) rfl (by k_is) rfl rfl rfl); (case c5 => decide); (case kB => exact locs rfl); (case c2 => exact rfl); (case c3 => exact rfl); (case c4 => exact rfl); k_whole; intro g' L' h' FG' F' N' B' X' T'; (try dsimp only); (try k_lift B'); (try k_fold))
  (rename Fr _ _ _ _ => F1)
  have F2 : Fr _ _ _ (fun nm9 => List.lookup nm9 [(Str.ofString "eve", ev), (Str.ofString "year", .int g t1)]) := F1
  clear F1
  refine with_nd (by decide +kernel) ?_
  intro hND
  k_steps
  all_goals (exact hret _ _ _ _ _ _ _ (by assumption) (by assumption) (by assumption) (by assumption))
def avF (n : Int) : Int := if n % 7 = 5 then n + 1 else n
theorem c_tisha_bav (w : World) (g n : Int) (ev : Value) (b : Bool) (t1 : Tok) (hv : EveV ev b) (hn : gyOk g 5 9 = some n) : Con30 w 208 11 [.int g t1, ev] (yF (eveF (avF n) b)) (mF (eveF (avF n) b)) (dF (eveF (avF n) b)) := by
  show Con30 w 208 11 [.int g t1, ev] (yF (if b = true then avF n - 1 else avF n)) (mF (if b = true then avF n - 1 else avF n)) (dF (if b = true then avF n - 1 else avF n))
  refine Con30.mk ?_
  unfold PW LO
  k_fill
  intros
  rename_i hret
  refine wpAny_call ?_
  (rename Fr _ _ _ _ => F0)
  have N0 := nil_of F0
  k_dflt (refine' code_def ?k1 ?k2 ?k3 ?k4 ?k5 ?kA ?kF ?kK ?k6 ?k7 ?k8 ?k9 ?kB ?_ ?c2 ?c3 ?c4 ?c5; (case kA => exact rfl); (case kF => exact rfl); (case kK => assumption); (case k1 => k_asm); (case k2 => k_asm); (case k3 => k_asm); (case k4 => k_asm); (case k5 => k_asm); (case k6 => k_is); (case k7 => k_is); (case k8 => ktr_room); (case k9 => exact binds_K (by k_in) rfl (by k_is) rfl rfl rfl); (case c5 => decide); (case kB => exact locs rfl); (case c2 => exact rfl); (case c3 => exact rfl); (case c4 => exact rfl); k_whole; intro g' L' h' FG' F' N' B' X' T'; (try dsimp only); (try k_lift B'); (try k_fold))
  (rename Fr _ _ _ _ => F1)
  have F2 : Fr _ _ _ (fun nm9 => List.lookup nm9 [(Str.ofString "eve", ev), (Str.ofString "year", .int g t1)]) := F1
  clear F1
  refine with_nd (by decide +kernel) ?_
  intro hND
  k_with_none
  k_with "exec If" => ((fail_if_success (with_reducible rename JMark => hJ)); (with_reducible show wpAny _ _ (exec (Stmt.If (Expr.Name _ _) _ _ _) _) _ _ _); k_dflt (refine' if_join (Str.ofString "jd") (if b = true then avF n - 1 else avF n) ?F ?N ?_ ?_; (case F => k_asm); (case N => k_asm); rotate_left; intro t9 h9 tk9 F9 N9; (try dsimp only); (try k_sweep); (try k_fold); rotate_left; intro hJ; (try k_fold)))
  k_with "exec If" => ((fail_if_success (with_reducible rename JMark => hJ)); (with_reducible show wpAny _ _ (exec (Stmt.If (Expr.Compare _ _ _ _) _ _ _) _) _ _ _); k_dflt (refine' if_join (Str.ofString "jd") (avF n) ?F ?N ?_ ?_; (case F => k_asm); (case N => k_asm); rotate_left; intro t9 h9 tk9 F9 N9; (try dsimp only); (try k_sweep); (try k_fold); rotate_left; intro hJ; (try k_fold)))
  k_steps
  k_with_none
  · refine joined_set ?_ rfl (by k_asm) (by k_asm)
    unfold avF; rw [if_pos (by assumption)]
  · refine joined_same ?_ (by repeat (first | with_reducible exact lk_hit | (with_reducible refine' lk_miss ?lkh ?_; (case lkh => decide +kernel)))) rfl (by k_asm) (by k_asm)
    unfold avF; rw [if_neg (by assumption)]
  · refine joined_set ?_ rfl (by k_asm) (by k_asm)
    rw [if_pos (by assumption)]
  · refine joined_same ?_ (by repeat (first | with_reducible exact lk_hit | (with_reducible refine' lk_miss ?lkh ?_; (case lkh => decide +kernel)))) rfl (by k_asm) (by k_asm)
    simp only [*, if_false, reduceIte, Bool.false_eq_true]
  · exact con30_end hret (by k_asm) (by k_asm) rfl rfl rfl
theorem x_tisha_bav (w : World) (g : Int) (ev : Value) (t1 : Tok) (hn : gyOk g 5 9 = none) : ConX0 w 208 11 [.int g t1, ev] := by
  refine ConX0.mk ?_
  unfold PW LO
  k_fill
  intros
  rename_i hret
  refine wpAny_call ?_
  (rename Fr _ _ _ _ => F0)
  have N0 := nil_of F0
  have hKD := kd_of F0
  k_dflt (refine' code_def ?k1 ?k2 ?k3 ?k4 ?k5 ?kA ?kF ?kK ?k6 ?k7 ?k8 ?k9 ?kB ?_ ?c2 ?c3 ?c4 ?c5; (case kA => exact rfl); (case kF => exact rfl); (case kK => assumption); (case k1 => k_asm); (case k2 => k_asm); (case k3 => k_asm); (case k4 => k_asm); (case k5 => k_asm); (case k6 => k_is); (case k7 => k_is); (case k8 => ktr_room); (case k9 => exact binds_K (by k_in) rfl (by k_is) rfl rfl rfl); (case c5 => decide); (case kB => exact locs rfl); (case c2 => exact rfl); (case c3 => exact rfl); (case c4 => exact rfl); k_whole; intro g' L' h' FG' F' N' B' X' T'; (try dsimp only); (try k_lift B'); (try k_fold))
  (rename Fr _ _ _ _ => F1)
  have F2 : Fr _ _ _ (fun nm9 => List.lookup nm9 [(Str.ofString "eve", ev), (Str.ofString "year", .int g t1)]) := F1
  clear F1
  refine with_nd (by decide +kernel) ?_
  intro hND
  k_steps
  all_goals (exact hret _ _ _ _ _ _ _ (by assumption) (by assumption) (by assumption) (by assumption))
end Mine
end
section
open PySem PySem.W PyProof.Rows PySem.Calls PySem.Spec
set_option Elab.async false
set_option maxRecDepth 100000
set_option maxHeartbeats 4000000
set_option linter.unusedSimpArgs false
namespace Mine
local macro_rules | `(tactic| walk_at "eval Call") => `(tactic| (k_here; (with_reducible show wpAny _ _ (eval (Expr.Call (Expr.Name _ _) _ [] _) _) _ _ _); k_dflt (refine Call_ ?_)))
local macro_rules | `(tactic| walk_at "ite") => `(tactic| (k_here; k_openite; (with_reducible show ite ((_ == _) = true) _ _); first | (refine ite_pos (beq_iff_eq.mpr (by first | assumption | omega)) ?_; walk_say "PRUNED eq") | (refine ite_neg (fun hc => (by first | (have hc' := beq_iff_eq.mp hc; contradiction) | (have hc' := beq_iff_eq.mp hc; omega))) ?_; walk_say "PRUNED eq")))
local macro_rules | `(tactic| walk_at "compareOp In int ref") => `(tactic| (k_here; k_dflt (refine' in_K ?k1 ?k2 ?k3 ?k4 ?_; (case k1 => k_asm); (case k2 => k_asm); (case k3 => k_is); (case k4 => repeat constructor); k_whole)))
local macro_rules | `(tactic| walk_at "eval Name") => `(tactic| (k_here; (with_reducible show wpAny _ _ (eval (Expr.Name _ _) (envOf _ _ _ _ _)) _ _ _); name_kind "local"; k_dflt (refine' ld ?F ?v ?_ ?a ?b ?c; (case a => exact rfl); (case b => exact ND.kind (by assumption) (by dsimp only; repeat (first | with_reducible exact mem_hd | with_reducible refine mem_tl ?_))); (case F => k_asm); (case v => (repeat (first | with_reducible exact lk_hit | with_reducible exact ll_hit | (with_reducible refine' lk_miss ?lkh ?_; (case lkh => decide +kernel)) | (with_reducible refine' ll_miss ?lkh ?_; (case lkh => decide +kernel))))); (case c => decide +kernel); k_whole)))
local macro_rules | `(tactic| walk_at "eval Name") => `(tactic| (k_here; (with_reducible show wpAny _ _ (eval (Expr.Name _ _) (envOf _ _ _ _ _)) _ _ _); name_kind "globalImplicit"; k_dflt (refine' name_K ?F ?X ?T ?e ?_ ?a ?b ?c; (case a => exact rfl); (case b => exact ND.kind (by assumption) (by dsimp only; repeat (first | with_reducible exact mem_hd | with_reducible refine mem_tl ?_))); (case F => k_asm); (case X => k_asm); (case T => k_asm); (case e => k_is); (case c => decide +kernel); k_whole)))
local macro_rules | `(tactic| walk_at "loadName") => `(tactic| (k_here; (with_reducible show wpAny _ _ (loadName (envOf _ _ _ _ _) _) _ _ _); k_dflt (refine' ldn ?F ?v ?_ ?a ?b; (case a => exact rfl); (case b => exact ND.kind (by assumption) (by dsimp only; repeat (first | with_reducible exact mem_hd | with_reducible refine mem_tl ?_))); (case F => k_asm); (case v => (repeat (first | with_reducible exact lk_hit | with_reducible exact ll_hit | (with_reducible refine' lk_miss ?lkh ?_; (case lkh => decide +kernel)) | (with_reducible refine' ll_miss ?lkh ?_; (case lkh => decide +kernel))))); k_whole)))
local macro_rules | `(tactic| walk_at "storeName") => `(tactic| (k_here; (with_reducible show wpAny _ _ (storeName (envOf _ _ _ _ _) _ _) _ _ _); k_dflt (refine' stN ?F ?N ?_ ?a ?b; (case F => k_asm); (case N => k_asm); (case a => exact rfl); (case b => exact ND.kind (by assumption) (by dsimp only; repeat (first | with_reducible exact mem_hd | with_reducible refine mem_tl ?_))); k_whole; intro h' F' N'; (try dsimp only); (try k_sweep))))
local macro_rules | `(tactic| walk_at "binaryOp Mult int int") => `(tactic| ((with_reducible refine' mul_int ?_ ?hm); k_dflt ((case hm => first | exact IntMulOk.of_right (by decide +kernel) | exact IntMulOk.of_left (by decide +kernel)); k_whole)))
local macro_rules | `(tactic| walk_at $s:str) => `(tactic| k_extra $s)
local macro_rules | `(tactic| walk_at "call ref") => `(tactic| (k_here; k_dflt (refine' Con30.use ?kC ?k1 ?k2 ?k3 ?k5 ?kK ?kd ?ku ?_; (case kC => first | exact c_hanukkah _ _ _ _ _ _ (by with_reducible assumption) (by with_reducible assumption) | exact c_rosh_hashanah _ _ _ _ _ _ (by with_reducible assumption) (by with_reducible assumption) | exact c_yom_kippur _ _ _ _ _ _ (by with_reducible assumption) (by with_reducible assumption) | exact c_passover _ _ _ _ _ _ (by with_reducible assumption) (by with_reducible assumption) | exact c_shavuot _ _ _ _ _ _ (by with_reducible assumption) (by with_reducible assumption) | exact c_sukkot _ _ _ _ _ _ (by with_reducible assumption) (by with_reducible assumption) | exact c_shemini_azeret _ _ _ _ _ _ (by with_reducible assumption) (by with_reducible assumption) | exact c_lag_baomer _ _ _ _ _ _ (by with_reducible assumption) (by with_reducible assumption) | exact c_tu_beshvat _ _ _ _ _ _ (by with_reducible assumption) (by with_reducible assumption) | exact c_tisha_bav _ _ _ _ _ _ (by with_reducible assumption) (by with_reducible assumption) | exact c_purim_false _ _ _ _ _ _ (by with_reducible assumption) (by with_reducible assumption) (by with_reducible assumption) | exact c_purim_true _ _ _ _ _ _ (by with_reducible assumption) (by with_reducible assumption) (by with_reducible assumption)); (case k1 => k_asm); (case k2 => k_asm); (case k3 => k_asm); (case k5 => k_asm); (case kK => first | exact rfl | assumption); (case kd => ktr_room); (case ku => ktr_units); k_whole; intro D9 t7 t8 t9 c9 h9 tk9 F9 N9; (try dsimp only); (try k_sweep); (try k_fold))))
local macro_rules | `(tactic| walk_at "call ref") => `(tactic| (k_here; k_dflt (refine' ConX0.use ?kC ?k1 ?k2 ?k3 ?k5 ?kK ?kd ?ku ?_; (case kC => first | exact x_hanukkah _ _ _ _ (by with_reducible assumption) | exact x_rosh_hashanah _ _ _ _ (by with_reducible assumption) | exact x_yom_kippur _ _ _ _ (by with_reducible assumption) | exact x_passover _ _ _ _ (by with_reducible assumption) | exact x_shavuot _ _ _ _ (by with_reducible assumption) | exact x_sukkot _ _ _ _ (by with_reducible assumption) | exact x_shemini_azeret _ _ _ _ (by with_reducible assumption) | exact x_lag_baomer _ _ _ _ (by with_reducible assumption) | exact x_tu_beshvat _ _ _ _ (by with_reducible assumption) | exact x_tisha_bav _ _ _ _ (by with_reducible assumption) | exact x_purim_false _ _ _ _ (by with_reducible assumption) (by with_reducible assumption) | exact x_purim_true _ _ _ _ (by with_reducible assumption) (by with_reducible assumption)); (case k1 => k_asm); (case k2 => k_asm); (case k3 => k_asm); (case k5 => k_asm); (case kK => first | exact rfl | assumption); (case kd => ktr_room); (case ku => ktr_units); k_whole; intro e9 t9 xs9 ns9 g9 h9 tk9 F9 S9 R9 U9; (try dsimp only); (try k_sweep); (try k_fold))))
def fMon (k g : Int) : Int := if k = 0 then 9 else if k = 1 then 7 else if k = 2 then 7 else if k = 3 then 1 else if k = 4 then 3 else if k = 5 then 7 else if k = 6 then 7 else if k = 7 then 2 else if k = 8 then 11 else if k = 9 then 5 else if leapF (g + 3760) = true then 13 else 12
def fDay (k : Int) : Int := if k = 0 then 25 else if k = 1 then 1 else if k = 2 then 10 else if k = 3 then 15 else if k = 4 then 6 else if k = 5 then 15 else if k = 6 then 22 else if k = 7 then 18 else if k = 8 then 15 else if k = 9 then 9 else 14
def feastN (k g : Int) : Option Int := (gyOk g (fMon k g) (fDay k)).map (fun n => if k = 9 then avF n else n)
theorem c_call (w : World) (k g n : Int) (ev : Value) (b : Bool) (t1 t2 : Tok) (hk : k = 0 ∨ k = 1 ∨ k = 2 ∨ k = 3 ∨ k = 4 ∨ k = 5 ∨ k = 6 ∨ k = 7 ∨ k = 8 ∨ k = 9 ∨ k = 10) (hv : EveV ev b) (hn : feastN k g = some n) : Con30 w 295 12 [.int k t1, .int g t2, ev] (yF (eveF n b)) (mF (eveF n b)) (dF (eveF n b)) := by
  refine Con30.mk ?_
  unfold PW LO
  k_fill
  intros
  rename_i hret
  refine wpAny_call ?_
  (rename Fr _ _ _ _ => F0)
  have N0 := nil_of F0
  k_dflt cell_enter
  (rename Fr _ _ _ _ => F1)
  have F2 : Fr _ _ _ (fun nm9 => List.lookup nm9 [(Str.ofString "eve", ev), (Str.ofString "year", .int g t2), (Str.ofString "which", .int k t1)]) := F1
  clear F1
  refine with_nd (by decide +kernel) ?_
  intro hND
  unfold feastN at hn
  obtain ⟨n', hn1, hn2⟩ := Option.map_eq_some_iff.mp hn
  clear hn
  rcases hk with rfl | rfl | rfl | rfl | rfl | rfl | rfl | rfl | rfl | rfl | rfl
  · replace hn1 : gyOk g 9 25 = some n' := hn1
    replace hn2 : n' = n := hn2
    subst hn2
    k_steps
    exact con30_end hret (by k_asm) (by k_asm) rfl rfl rfl
  · replace hn1 : gyOk g 7 1 = some n' := hn1
    replace hn2 : n' = n := hn2
    subst hn2
    k_steps
    exact con30_end hret (by k_asm) (by k_asm) rfl rfl rfl
  · replace hn1 : gyOk g 7 10 = some n' := hn1
    replace hn2 : n' = n := hn2
    subst hn2
    k_steps
    exact con30_end hret (by k_asm) (by k_asm) rfl rfl rfl
  · replace hn1 : gyOk g 1 15 = some n' := hn1
    replace hn2 : n' = n := hn2
    subst hn2
    k_steps
    exact con30_end hret (by k_asm) (by k_asm) rfl rfl rfl
  · replace hn1 : gyOk g 3 6 = some n' := hn1
    replace hn2 : n' = n := hn2
    subst hn2
    k_steps
    exact con30_end hret (by k_asm) (by k_asm) rfl rfl rfl
  · replace hn1 : gyOk g 7 15 = some n' := hn1
    replace hn2 : n' = n := hn2
    subst hn2
    k_steps
    exact con30_end hret (by k_asm) (by k_asm) rfl rfl rfl
  · replace hn1 : gyOk g 7 22 = some n' := hn1
    replace hn2 : n' = n := hn2
    subst hn2
    k_steps
    exact con30_end hret (by k_asm) (by k_asm) rfl rfl rfl
  · replace hn1 : gyOk g 2 18 = some n' := hn1
    replace hn2 : n' = n := hn2
    subst hn2
    k_steps
    exact con30_end hret (by k_asm) (by k_asm) rfl rfl rfl
  · replace hn1 : gyOk g 11 15 = some n' := hn1
    replace hn2 : n' = n := hn2
    subst hn2
    k_steps
    exact con30_end hret (by k_asm) (by k_asm) rfl rfl rfl
  · replace hn1 : gyOk g 5 9 = some n' := hn1
    replace hn2 : avF n' = n := hn2
    subst hn2
    k_steps
    exact con30_end hret (by k_asm) (by k_asm) rfl rfl rfl
  · replace hn2 : n' = n := hn2
    subst hn2
    cases hl : leapF (g + 3760)
    · replace hn1 : gyOk g (if leapF (g + 3760) = true then 13 else 12) 14 = some n' := hn1
      rw [hl] at hn1
      replace hn1 : gyOk g 12 14 = some n' := hn1
      k_steps
      exact con30_end hret (by k_asm) (by k_asm) rfl rfl rfl
    · replace hn1 : gyOk g (if leapF (g + 3760) = true then 13 else 12) 14 = some n' := hn1
      rw [hl] at hn1
      replace hn1 : gyOk g 13 14 = some n' := hn1
      k_steps
      exact con30_end hret (by k_asm) (by k_asm) rfl rfl rfl
theorem x_call (w : World) (k g : Int) (ev : Value) (t1 t2 : Tok) (hk : k = 0 ∨ k = 1 ∨ k = 2 ∨ k = 3 ∨ k = 4 ∨ k = 5 ∨ k = 6 ∨ k = 7 ∨ k = 8 ∨ k = 9 ∨ k = 10) (hn : feastN k g = none) : ConX0 w 295 12 [.int k t1, .int g t2, ev] := by
  refine ConX0.mk ?_
  unfold PW LO
  k_fill
  intros
  rename_i hret
  refine wpAny_call ?_
  (rename Fr _ _ _ _ => F0)
  have N0 := nil_of F0
  have hKD := kd_of F0
  k_dflt cell_enter
  (rename Fr _ _ _ _ => F1)
  have F2 : Fr _ _ _ (fun nm9 => List.lookup nm9 [(Str.ofString "eve", ev), (Str.ofString "year", .int g t2), (Str.ofString "which", .int k t1)]) := F1
  clear F1
  refine with_nd (by decide +kernel) ?_
  intro hND
  unfold feastN at hn
  have hn1 := Option.map_eq_none_iff.mp hn
  clear hn
  rcases hk with rfl | rfl | rfl | rfl | rfl | rfl | rfl | rfl | rfl | rfl | rfl
  · replace hn1 : gyOk g 9 25 = none := hn1
    k_steps
    all_goals (exact hret _ _ _ _ _ _ _ (by assumption) (by assumption) (by assumption) (by assumption))
  · replace hn1 : gyOk g 7 1 = none := hn1
    k_steps
    all_goals (exact hret _ _ _ _ _ _ _ (by assumption) (by assumption) (by assumption) (by assumption))
  · replace hn1 : gyOk g 7 10 = none := hn1
    k_steps
    all_goals (exact hret _ _ _ _ _ _ _ (by assumption) (by assumption) (by assumption) (by assumption))
  · replace hn1 : gyOk g 1 15 = none := hn1
    k_steps
    all_goals (exact hret _ _ _ _ _ _ _ (by assumption) (by assumption) (by assumption) (by assumption))
  · replace hn1 : gyOk g 3 6 = none := hn1
    k_steps
    all_goals (exact hret _ _ _ _ _ _ _ (by assumption) (by assumption) (by assumption) (by assumption))
  · replace hn1 : gyOk g 7 15 = none := hn1
    k_steps
    all_goals (exact hret _ _ _ _ _ _ _ (by assumption) (by assumption) (by assumption) (by assumption))
  · replace hn1 : gyOk g 7 22 = none := hn1
    k_steps
    all_goals (exact hret _ _ _ _ _ _ _ (by assumption) (by assumption) (by assumption) (by assumption))
  · replace hn1 : gyOk g 2 18 = none := hn1
    k_steps
    all_goals (exact hret _ _ _ _ _ _ _ (by assumption) (by assumption) (by assumption) (by assumption))
  · replace hn1 : gyOk g 11 15 = none := hn1
    k_steps
    all_goals (exact hret _ _ _ _ _ _ _ (by assumption) (by assumption) (by assumption) (by assumption))
  · replace hn1 : gyOk g 5 9 = none := hn1
    k_steps
    all_goals (exact hret _ _ _ _ _ _ _ (by assumption) (by assumption) (by assumption) (by assumption))
  · cases hl : leapF (g + 3760)
    · replace hn1 : gyOk g (if leapF (g + 3760) = true then 13 else 12) 14 = none := hn1
      rw [hl] at hn1
      replace hn1 : gyOk g 12 14 = none := hn1
      k_steps
      all_goals (exact hret _ _ _ _ _ _ _ (by assumption) (by assumption) (by assumption) (by assumption))
    · replace hn1 : gyOk g (if leapF (g + 3760) = true then 13 else 12) 14 = none := hn1
      rw [hl] at hn1
      replace hn1 : gyOk g 13 14 = none := hn1
      k_steps
      all_goals (exact hret _ _ _ _ _ _ _ (by assumption) (by assumption) (by assumption) (by assumption))
local macro_rules | `(tactic| walk_at "call ref") => `(tactic| (k_here; k_dflt (refine' Con30.use ?kC ?k1 ?k2 ?k3 ?k5 ?kK ?kd ?ku ?_; (case kC => first | exact c_call _ _ _ _ _ _ _ _ (by with_reducible assumption) (by with_reducible assumption) (by with_reducible assumption)); (case k1 => k_asm); (case k2 => k_asm); (case k3 => k_asm); (case k5 => k_asm); (case kK => first | exact rfl | assumption); (case kd => ktr_room); (case ku => ktr_units); k_whole; intro D9 t7 t8 t9 c9 h9 tk9 F9 N9; (try dsimp only); (try k_sweep); (try k_fold))))
local macro_rules | `(tactic| walk_at "call ref") => `(tactic| (k_here; k_dflt (refine' ConX0.use ?kC ?k1 ?k2 ?k3 ?k5 ?kK ?kd ?ku ?_; (case kC => first | exact x_call _ _ _ _ _ _ (by with_reducible assumption) (by with_reducible assumption)); (case k1 => k_asm); (case k2 => k_asm); (case k3 => k_asm); (case k5 => k_asm); (case kK => first | exact rfl | assumption); (case kd => ktr_room); (case ku => ktr_units); k_whole; intro e9 t9 xs9 ns9 g9 h9 tk9 F9 S9 R9 U9; (try dsimp only); (try k_sweep); (try k_fold))))
theorem c_told (w : World) (k g n : Int) (ev : Value) (b : Bool) (t1 t2 : Tok) (hk : k = 0 ∨ k = 1 ∨ k = 2 ∨ k = 3 ∨ k = 4 ∨ k = 5 ∨ k = 6 ∨ k = 7 ∨ k = 8 ∨ k = 9 ∨ k = 10) (hv : EveV ev b) (hn : feastN k g = some n) : Con30 w 302 13 [.int k t1, .int g t2, ev] (yF (eveF n b)) (mF (eveF n b)) (dF (eveF n b)) := by
  refine Con30.mk ?_
  unfold PW LO
  k_fill
  intros
  rename_i hret
  refine wpAny_call ?_
  (rename Fr _ _ _ _ => F0)
  have N0 := nil_of F0
  k_dflt cell_enter
  (rename Fr _ _ _ _ => F1)
  have F2 : Fr _ _ _ (fun nm9 => List.lookup nm9 [(Str.ofString "eve", ev), (Str.ofString "year", .int g t2), (Str.ofString "which", .int k t1)]) := F1
  clear F1
  refine with_nd (by decide +kernel) ?_
  intro hND
  k_steps
  exact con30_end hret (by k_asm) (by k_asm) rfl rfl rfl
end Mine
end
section
open PySem PySem.W PyProof.Rows PySem.Calls PySem.Spec
set_option Elab.async false
set_option maxRecDepth 100000
set_option maxHeartbeats 4000000
set_option linter.unusedSimpArgs false
namespace Mine
/-- a call from the outermost frame: a value of R comes back, and some one new object is known -/
structure ConR (w : World) (f : Addr) (d : Nat) (vs : List Value) (R : Tok → Value) : Prop where
  out : ∀ (mean : ExcName → Option Value) (mg mb : Str → Option Value) (dp un : Nat) (gd : Option (List Code)) (cn : Str) (cs : Scope) (a : Addr) (ccd : Value) (A₀ : Around) (base h₀ : Heap) (L : Addr) (m : Str → Option Value) (s : Shared) (Q E : Value → Shared → Prop),
    Below A₀ base [] h₀ → Fr h₀ L s.heap m → (Mine.hd.heap_39 w.params).In h₀ → Top Mine.hd.view_39 LO mean mg mb h₀ → (Mine.hd.heap_39 w.params).In base → Top Mine.hd.view_39 LO mean mg mb base → cs.kind = .function →
    dp + d < recursionLimit → un + 8 * d < cLine →
    (∀ (t : Tok) (D : Addr) (o : Obj) (h' : Heap) (tk' : Nat), Fr h₀ L h' m → News h₀ L h' [(D, o)] → Q (R t) { s with heap := h', toks := tk' }) →
      wpAny (model PW w) (ktrTop dp un gd cn cs L a ccd [] []) (call (.ref f) vs) Q E s

theorem ConR.use {w : World} {f : Addr} {d : Nat} {vs : List Value} {R : Tok → Value} {mean : ExcName → Option Value} {mg mb : Str → Option Value} {dp un : Nat} {gd : Option (List Code)} {cn : Str} {cs : Scope} {a : Addr} {ccd : Value} {A₀ : Around} {base h₀ : Heap} {L : Addr} {m : Str → Option Value} {s : Shared} {Q E : Value → Shared → Prop}
    (C : ConR w f d vs R) (B : Below A₀ base [] h₀) (F : Fr h₀ L s.heap m) (X : (Mine.hd.heap_39 w.params).In h₀) (T : Top Mine.hd.view_39 LO mean mg mb h₀) (XB : (Mine.hd.heap_39 w.params).In base) (TB : Top Mine.hd.view_39 LO mean mg mb base) (hk : cs.kind = .function)
    (hd : dp + d < recursionLimit) (hu : un + 8 * d < cLine)
    (ret : ∀ (t : Tok) (D : Addr) (o : Obj) (h' : Heap) (tk' : Nat), Fr h₀ L h' m → News h₀ L h' [(D, o)] → Q (R t) { s with heap := h', toks := tk' }) :
    wpAny (model PW w) (ktrTop dp un gd cn cs L a ccd [] []) (call (.ref f) vs) Q E s :=
  C.out mean mg mb dp un gd cn cs a ccd A₀ base h₀ L m s Q E B F X T XB TB hk hd hu ret
theorem got_one {g h : Heap} {L e t : Addr} {cls : Value} {vs : List Value} {news : List (Addr × Obj)} (N : News g L h news) (G : Got news e t cls vs) : ∃ o : Obj, News g L h [(e, o)] := by
  obtain ⟨oe, ot, ws, nt, hm, _⟩ := G
  exact ⟨oe, fun p hp => N p (by rw [List.mem_singleton.mp hp]; exact hm)⟩
local macro_rules | `(tactic| walk_at "eval Call") => `(tactic| (k_here; (with_reducible show wpAny _ _ (eval (Expr.Call (Expr.Name _ _) _ [] _) _) _ _ _); k_dflt (refine Call_ ?_)))
local macro_rules | `(tactic| walk_at "ite") => `(tactic| (k_here; k_openite; (with_reducible show ite ((_ == _) = true) _ _); first | (refine ite_pos (beq_iff_eq.mpr (by first | assumption | omega)) ?_; walk_say "PRUNED eq") | (refine ite_neg (fun hc => (by first | (have hc' := beq_iff_eq.mp hc; contradiction) | (have hc' := beq_iff_eq.mp hc; omega))) ?_; walk_say "PRUNED eq")))
local macro_rules | `(tactic| walk_at "compareOp In int ref") => `(tactic| (k_here; k_dflt (refine' in_K ?k1 ?k2 ?k3 ?k4 ?_; (case k1 => k_asm); (case k2 => k_asm); (case k3 => k_is); (case k4 => repeat constructor); k_whole)))
local macro_rules | `(tactic| walk_at "eval Name") => `(tactic| (k_here; (with_reducible show wpAny _ _ (eval (Expr.Name _ _) (envOf _ _ _ _ _)) _ _ _); name_kind "local"; k_dflt (refine' ld ?F ?v ?_ ?a ?b ?c; (case a => exact rfl); (case b => exact ND.kind (by assumption) (by dsimp only; repeat (first | with_reducible exact mem_hd | with_reducible refine mem_tl ?_))); (case F => k_asm); (case v => (repeat (first | with_reducible exact lk_hit | with_reducible exact ll_hit | (with_reducible refine' lk_miss ?lkh ?_; (case lkh => decide +kernel)) | (with_reducible refine' ll_miss ?lkh ?_; (case lkh => decide +kernel))))); (case c => decide +kernel); k_whole)))
local macro_rules | `(tactic| walk_at "eval Name") => `(tactic| (k_here; (with_reducible show wpAny _ _ (eval (Expr.Name _ _) (envOf _ _ _ _ _)) _ _ _); name_kind "globalImplicit"; k_dflt (refine' name_K ?F ?X ?T ?e ?_ ?a ?b ?c; (case a => exact rfl); (case b => exact ND.kind (by assumption) (by dsimp only; repeat (first | with_reducible exact mem_hd | with_reducible refine mem_tl ?_))); (case F => k_asm); (case X => k_asm); (case T => k_asm); (case e => k_is); (case c => decide +kernel); k_whole)))
local macro_rules | `(tactic| walk_at "loadName") => `(tactic| (k_here; (with_reducible show wpAny _ _ (loadName (envOf _ _ _ _ _) _) _ _ _); k_dflt (refine' ldn ?F ?v ?_ ?a ?b; (case a => exact rfl); (case b => exact ND.kind (by assumption) (by dsimp only; repeat (first | with_reducible exact mem_hd | with_reducible refine mem_tl ?_))); (case F => k_asm); (case v => (repeat (first | with_reducible exact lk_hit | with_reducible exact ll_hit | (with_reducible refine' lk_miss ?lkh ?_; (case lkh => decide +kernel)) | (with_reducible refine' ll_miss ?lkh ?_; (case lkh => decide +kernel))))); k_whole)))
local macro_rules | `(tactic| walk_at "storeName") => `(tactic| (k_here; (with_reducible show wpAny _ _ (storeName (envOf _ _ _ _ _) _ _) _ _ _); k_dflt (refine' stN ?F ?N ?_ ?a ?b; (case F => k_asm); (case N => k_asm); (case a => exact rfl); (case b => exact ND.kind (by assumption) (by dsimp only; repeat (first | with_reducible exact mem_hd | with_reducible refine mem_tl ?_))); k_whole; intro h' F' N'; (try dsimp only); (try k_sweep))))
local macro_rules | `(tactic| walk_at "binaryOp Mult int int") => `(tactic| ((with_reducible refine' mul_int ?_ ?hm); k_dflt ((case hm => first | exact IntMulOk.of_right (by decide +kernel) | exact IntMulOk.of_left (by decide +kernel)); k_whole)))
local macro_rules | `(tactic| walk_at $s:str) => `(tactic| k_extra $s)
local macro_rules | `(tactic| walk_at "call ref") => `(tactic| (k_here; k_dflt (refine' ConX0.use ?kC ?k1 ?k2 ?k3 ?k5 ?kK ?kd ?ku ?_; (case kC => first | exact x_call _ _ _ _ _ _ (by with_reducible assumption) (by with_reducible assumption)); (case k1 => k_asm); (case k2 => k_asm); (case k3 => k_asm); (case k5 => k_asm); (case kK => first | exact rfl | assumption); (case kd => ktr_room); (case ku => ktr_units); k_whole; intro e9 t9 xs9 ns9 g9 h9 tk9 F9 S9 R9 U9; (try dsimp only); (try k_sweep); (try k_fold))))
local macro_rules | `(tactic| walk_at "LeaveS0") => `(tactic| ((with_reducible rename Got _ _ _ _ _ => gG); (obtain ⟨oE, nE⟩ := got_one (by assumption) gG); k_dflt (refine' leaveS0_ ?F ?N ?T ?_; (case N => exact nE); (case F => k_asm); (case T => first | assumption | exact KtsTurn.refl); k_whole); intro kF kN; kts_tail))
theorem x_told (w : World) (k g : Int) (ev : Value) (t1 t2 : Tok) (hk : k = 0 ∨ k = 1 ∨ k = 2 ∨ k = 3 ∨ k = 4 ∨ k = 5 ∨ k = 6 ∨ k = 7 ∨ k = 8 ∨ k = 9 ∨ k = 10) (hn : feastN k g = none) : ConR w 302 13 [.int k t1, .int g t2, ev] (fun t => .str (Str.ofString "refused") t) := by
  refine ConR.mk ?_
  unfold PW LO
  k_fill
  intros
  rename_i hret
  refine wpAny_call ?_
  (rename Fr _ _ _ _ => F0)
  have N0 := nil_of F0
  (refine' code_defS0 ?k1 ?k2 ?k3 ?k4 ?k5 ?kA ?k6 ?k7 ?k8 ?k9 ?kB ?_ ?cK ?c2 ?c3 ?c4 ?c5; (case kA => exact rfl); (case k2 => k_asm); (case k1 => k_asm); (case k3 => k_asm); (case k4 => k_asm); (case k5 => k_asm); (case k6 => k_is); (case k7 => k_is); (case k8 => ktr_room); (case k9 => first | exact binds_K (by k_in) rfl (by k_is) rfl rfl rfl | exact BindsTo.of_eq rfl | fail "kts_go: no rule for these arguments"); (case kB => exact locs rfl); (case cK => first | assumption | exact rfl); (case c2 => exact rfl); (case c3 => exact rfl); (case c4 => exact rfl); (case c5 => decide); k_whole; intro g' L' h' FG' F' N' B' X' T' D'; (try dsimp only); (try k_lift B'); (try k_fold))
  (rename Fr _ _ _ _ => F1)
  have F2 : Fr _ _ _ (fun nm9 => List.lookup nm9 [(Str.ofString "eve", ev), (Str.ofString "year", .int g t2), (Str.ofString "which", .int k t1)]) := F1
  clear F1
  refine with_nd (by decide +kernel) ?_
  intro hND
  k_steps
  all_goals (exact hret _ _ _ _ _ (by assumption) (by assumption))
end Mine
end
section
open PySem PySem.W PyProof.Rows PySem.Calls PySem.Spec
set_option Elab.async false
set_option maxRecDepth 100000
set_option maxHeartbeats 4000000
set_option linter.unusedSimpArgs false
namespace Mine
theorem c_hday (w : World) (y m d : Int) (t1 t2 t3 : Tok) (d1 d2 d3 : Addr) (o1 o2 o3 : Obj) (hm : m = 7 ∨ m = 8 ∨ m = 9 ∨ m = 10 ∨ m = 11 ∨ m = 12 ∨ m = 13 ∨ m = 1 ∨ m = 2 ∨ m = 3 ∨ m = 4 ∨ m = 5) : ConW w 260 4 [.int y t1, .int m t2, .int d t3] (fun t => .int (lawH y m d) t) [(d1, o1), (d2, o2), (d3, o3)] := by
  by_cases hs : 360 < sizeF y
  · exact c_hdayL w y m d t1 t2 t3 d1 d2 d3 o1 o2 o3 hm hs
  · exact c_hdayC w y m d t1 t2 t3 d1 d2 d3 o1 o2 o3 hm hs
theorem c_longB (w : World) (y : Int) (t : Tok) {b : Bool} (h : longF y = b) : Con w 248 1 [.int y t] (fun _ => .bool b) := by
  subst h
  exact c_long w y t
def Joined2 (h₀ : Heap) (L : Addr) (m : Str → Option Value) (news : List (Addr × Obj)) (s : Shared) (x1 : Str) (v1 : Int) (x2 : Str) (v2 : Int) (fl : Flow) (s' : Shared) : Prop :=
  fl = .next ∧ ∃ t1 t2 h' tk', s' = { s with heap := h', toks := tk' } ∧ Fr h₀ L h' (fun y => if y = x2 then some (.int v2 t2) else if y = x1 then some (.int v1 t1) else m y) ∧ News h₀ L h' news
theorem joined2_end {h₀ h' : Heap} {L : Addr} {m : Str → Option Value} {news : List (Addr × Obj)} {s s' : Shared} {x1 x2 : Str} {v1 v2 v1' v2' : Int} {t1 t2 : Tok} {tk' : Nat} (e1 : v1' = v1) (e2 : v2' = v2) (hs : s' = { s with heap := h', toks := tk' }) (F : Fr h₀ L h' (fun y => if y = x2 then some (.int v2' t2) else if y = x1 then some (.int v1' t1) else m y)) (N : News h₀ L h' news) : Joined2 h₀ L m news s x1 v1 x2 v2 .next s' := by
  subst e1; subst e2; exact ⟨rfl, t1, t2, h', tk', hs, F, N⟩
theorem join2 {M : Model} {A : Around} {E : Value → Shared → Prop} {s : Shared} {h₀ : Heap} {L : Addr} {m : Str → Option Value} {news : List (Addr × Obj)} {env : Env} {st : Stmt} (x1 : Str) (v1 : Int) (x2 : Str) (v2 : Int) {Q : Flow → Shared → Prop} (F : Fr h₀ L s.heap m) (N : News h₀ L s.heap news)
    (hc : JMark → wpAny M A (exec st env) (Joined2 h₀ L m news s x1 v1 x2 v2) E s)
    (hk : ∀ (t1 t2 : Tok) (h' : Heap) (tk' : Nat), Fr h₀ L h' (fun y => if y = x2 then some (.int v2 t2) else if y = x1 then some (.int v1 t1) else m y) → News h₀ L h' news → Q .next { s with heap := h', toks := tk' }) : wpAny M A (exec st env) Q E s := by
  refine wpAny_mono (hc ⟨⟩) (fun fl s₂ hq => ?_) fun _ _ h => h
  obtain ⟨rfl, t1, t2, h', tk', rfl, F', N'⟩ := hq
  exact hk t1 t2 h' tk' F' N'
/-- the same over a written ledger -/
structure ConW3 (w : World) (f : Addr) (d : Nat) (vs : List Value) (x y z : Int) (news : List (Addr × Obj)) : Prop where
  out : ∀ (mean : ExcName → Option Value) (mg mb : Str → Option Value) (dp un : Nat) (gd : Option (List Code)) (cn : Str) (cs : Scope) (a : Addr) (ccd : Value) (cl : List (Str × Addr)) (outer : List Env) (A₀ : Around) (base h₀ : Heap) (L : Addr) (m : Str → Option Value) (s : Shared) (Q E : Value → Shared → Prop),
    Below A₀ base outer h₀ → Fr h₀ L s.heap m → (Mine.hd.heap_39 w.params).In h₀ → News h₀ L s.heap news → Top Mine.hd.view_39 LO mean mg mb h₀ → cs.kind = .function →
    dp + d < recursionLimit → un + 8 * d < cLine →
    (∀ (D : Addr) (t1 t2 t3 : Tok) (c : Nat) (h' : Heap) (tk' : Nat), Fr h₀ L h' m → News h₀ L h' ((D, ({ cls := .type "tuple", data := .seq #[.int x t1, .int y t2, .int z t3] c } : Obj)) :: news) → AllLt D news → Q (.ref D) { s with heap := h', toks := tk' }) →
      wpAny (model PW w) (ktrTop dp un gd cn cs L a ccd cl outer) (call (.ref f) vs) Q E s

theorem ConW3.use {w : World} {f : Addr} {d : Nat} {vs : List Value} {x y z : Int} {mean : ExcName → Option Value} {mg mb : Str → Option Value} {dp un : Nat} {gd : Option (List Code)} {cn : Str} {cs : Scope} {a : Addr} {ccd : Value} {cl : List (Str × Addr)} {outer : List Env} {A₀ : Around} {base h₀ : Heap} {L : Addr} {m : Str → Option Value} {news : List (Addr × Obj)} {s : Shared} {Q E : Value → Shared → Prop}
    (C : ConW3 w f d vs x y z news) (B : Below A₀ base outer h₀) (F : Fr h₀ L s.heap m) (X : (Mine.hd.heap_39 w.params).In h₀) (N : News h₀ L s.heap news) (T : Top Mine.hd.view_39 LO mean mg mb h₀) (hk : cs.kind = .function)
    (hd : dp + d < recursionLimit) (hu : un + 8 * d < cLine)
    (ret : ∀ (D : Addr) (t1 t2 t3 : Tok) (c : Nat) (h' : Heap) (tk' : Nat), Fr h₀ L h' m → News h₀ L h' ((D, ({ cls := .type "tuple", data := .seq #[.int x t1, .int y t2, .int z t3] c } : Obj)) :: news) → AllLt D news → Q (.ref D) { s with heap := h', toks := tk' }) :
    wpAny (model PW w) (ktrTop dp un gd cn cs L a ccd cl outer) (call (.ref f) vs) Q E s :=
  C.out mean mg mb dp un gd cn cs a ccd cl outer A₀ base h₀ L m s Q E B F X N T hk hd hu ret

local macro_rules | `(tactic| walk_at "eval Call") => `(tactic| (k_here; (with_reducible show wpAny _ _ (eval (Expr.Call (Expr.Name _ _) _ [] _) _) _ _ _); k_dflt (refine Call_ ?_)))
local macro_rules | `(tactic| walk_at "ite") => `(tactic| (k_here; k_openite; (with_reducible show ite ((_ == _) = true) _ _); first | (refine ite_pos (beq_iff_eq.mpr (by first | assumption | omega)) ?_; walk_say "PRUNED eq") | (refine ite_neg (fun hc => (by first | (have hc' := beq_iff_eq.mp hc; contradiction) | (have hc' := beq_iff_eq.mp hc; omega))) ?_; walk_say "PRUNED eq")))
local macro_rules | `(tactic| walk_at "compareOp In int ref") => `(tactic| (k_here; k_dflt (refine' in_K ?k1 ?k2 ?k3 ?k4 ?_; (case k1 => k_asm); (case k2 => k_asm); (case k3 => k_is); (case k4 => repeat constructor); k_whole)))
local macro_rules | `(tactic| walk_at "eval Name") => `(tactic| (k_here; (with_reducible show wpAny _ _ (eval (Expr.Name _ _) (envOf _ _ _ _ _)) _ _ _); name_kind "local"; k_dflt (refine' ld ?F ?v ?_ ?a ?b ?c; (case a => exact rfl); (case b => exact ND.kind (by assumption) (by dsimp only; repeat (first | with_reducible exact mem_hd | with_reducible refine mem_tl ?_))); (case F => k_asm); (case v => (repeat (first | with_reducible exact lk_hit | with_reducible exact ll_hit | (with_reducible refine' lk_miss ?lkh ?_; (case lkh => decide +kernel)) | (with_reducible refine' ll_miss ?lkh ?_; (case lkh => decide +kernel))))); (case c => decide +kernel); k_whole)))
local macro_rules | `(tactic| walk_at "eval Name") => `(tactic| (k_here; (with_reducible show wpAny _ _ (eval (Expr.Name _ _) (envOf _ _ _ _ _)) _ _ _); name_kind "globalImplicit"; k_dflt (refine' name_K ?F ?X ?T ?e ?_ ?a ?b ?c; (case a => exact rfl); (case b => exact ND.kind (by assumption) (by dsimp only; repeat (first | with_reducible exact mem_hd | with_reducible refine mem_tl ?_))); (case F => k_asm); (case X => k_asm); (case T => k_asm); (case e => k_is); (case c => decide +kernel); k_whole)))
local macro_rules | `(tactic| walk_at "loadName") => `(tactic| (k_here; (with_reducible show wpAny _ _ (loadName (envOf _ _ _ _ _) _) _ _ _); k_dflt (refine' ldn ?F ?v ?_ ?a ?b; (case a => exact rfl); (case b => exact ND.kind (by assumption) (by dsimp only; repeat (first | with_reducible exact mem_hd | with_reducible refine mem_tl ?_))); (case F => k_asm); (case v => (repeat (first | with_reducible exact lk_hit | with_reducible exact ll_hit | (with_reducible refine' lk_miss ?lkh ?_; (case lkh => decide +kernel)) | (with_reducible refine' ll_miss ?lkh ?_; (case lkh => decide +kernel))))); k_whole)))
local macro_rules | `(tactic| walk_at "storeName") => `(tactic| (k_here; (with_reducible show wpAny _ _ (storeName (envOf _ _ _ _ _) _ _) _ _ _); k_dflt (refine' stN ?F ?N ?_ ?a ?b; (case F => k_asm); (case N => k_asm); (case a => exact rfl); (case b => exact ND.kind (by assumption) (by dsimp only; repeat (first | with_reducible exact mem_hd | with_reducible refine mem_tl ?_))); k_whole; intro h' F' N'; (try dsimp only); (try k_sweep))))
local macro_rules | `(tactic| walk_at "binaryOp Mult int int") => `(tactic| ((with_reducible refine' mul_int ?_ ?hm); k_dflt ((case hm => first | exact IntMulOk.of_right (by decide +kernel) | exact IntMulOk.of_left (by decide +kernel)); k_whole)))
local macro_rules | `(tactic| walk_at $s:str) => `(tactic| k_extra $s)
local macro_rules | `(tactic| walk_at "subscriptTail") => `(tactic| (k_here; (with_reducible show wpAny _ _ (subscriptTail _ _ (Value.ref _) (Value.int _ _)) _ _ _); k_dflt (first | (refine' topTup_K ?F ?X ?l ?a ?b ?c ?d ?_; (case F => k_asm); (case X => k_asm); (case l => k_is); (case a => decide); (case b => decide); (case c => rfl); (case d => rfl)) | (refine' item_tupleT ?t ?a ?b ?c ?d ?_; (case t => exact News.isTup (by k_asm) (by k_mem)); (case a => decide); (case b => decide); (case c => rfl); (case d => rfl); k_whole))))
local macro_rules | `(tactic| walk_at "pyIter ref") => `(tactic| (k_here; (with_reducible show wpAny _ _ (pyIter (Value.ref _)) (fun it s₂ => TurnsAt _ _ _ _ _ _ _ _ _ it s₂) _ _); ktu_seq))
local macro_rules | `(tactic| walk_at "truthy") => `(tactic| (k_here; k_dflt (refine' truthy_eve ?kE ?_; (case kE => with_reducible assumption); k_whole)))
local macro_rules | `(tactic| walk_at "call ref") => `(tactic| (k_here; k_dflt (refine' Con.use ?kC ?k1 ?k2 ?k3 ?k4 ?k5 ?kK ?kd ?ku ?_; (case kC => first | exact c_long _ _ _ | exact c_yearof _ _ _); (case k1 => k_asm); (case k2 => k_asm); (case k3 => k_asm); (case k4 => k_asm); (case k5 => k_asm); (case kK => first | exact rfl | assumption); (case kd => ktr_room); (case ku => ktr_units); k_whole; intro t9 h9 tk9 F9 N9; (try dsimp only); (try k_sweep); (try k_fold))))
local macro_rules | `(tactic| walk_at "call ref") => `(tactic| (k_here; k_dflt (refine' Con3.use ?kC ?k1 ?k2 ?k3 ?k4 ?k5 ?kK ?kd ?ku ?_; (case kC => first | exact c_date _ _ _); (case k1 => k_asm); (case k2 => k_asm); (case k3 => k_asm); (case k4 => k_asm); (case k5 => k_asm); (case kK => first | exact rfl | assumption); (case kd => ktr_room); (case ku => ktr_units); k_whole; intro D9 t7 t8 t9 c9 h9 tk9 F9 N9 hl9; (try simp only [AllLt, and_true] at hl9); (try dsimp only); (try k_sweep); (try k_fold))))
local macro_rules | `(tactic| walk_at "call ref") => `(tactic| (k_here; k_dflt (refine' ConW.use ?kC ?k1 ?k2 ?k3 ?k4 ?k5 ?kK ?kd ?ku ?_; (case k4 => k_asm); (case kC => exact c_hday _ _ _ _ _ _ _ _ _ _ _ _ _ (by with_reducible assumption)); (case k1 => k_asm); (case k2 => k_asm); (case k3 => k_asm); (case k5 => k_asm); (case kK => first | exact rfl | assumption); (case kd => ktr_room); (case ku => ktr_units); k_whole; intro t9 h9 tk9 F9 N9; (try dsimp only); (try k_sweep); (try k_fold))))
def dMon (k : Int) : Int := if k = 0 then 9 else if k = 1 then 7 else if k = 2 then 7 else if k = 3 then 1 else if k = 4 then 3 else if k = 5 then 7 else if k = 6 then 7 else if k = 7 then 2 else if k = 8 then 11 else if k = 9 then 5 else 12
def dMon2 (k g : Int) : Int := if k = 10 ∧ longF (g + 3760) = true then 13 else dMon k
theorem dMon2_in (k g : Int) : dMon2 k g = 7 ∨ dMon2 k g = 8 ∨ dMon2 k g = 9 ∨ dMon2 k g = 10 ∨ dMon2 k g = 11 ∨ dMon2 k g = 12 ∨ dMon2 k g = 13 ∨ dMon2 k g = 1 ∨ dMon2 k g = 2 ∨ dMon2 k g = 3 ∨ dMon2 k g = 4 ∨ dMon2 k g = 5 := by
  unfold dMon2 dMon
  (repeat' split) <;> simp
def avL (k n : Int) : Int := if k = 9 ∧ (n - 2451545) % 7 = 0 then n + 1 else n
theorem avL_ne {k n : Int} (h : (n - 2451545) % 7 ≠ 0) : avL k n = n := if_neg (fun hc => h hc.2)
theorem avL_k {k n : Int} (h : k ≠ 9) : avL k n = n := if_neg (fun hc => h hc.1)
theorem avL_yes {k n : Int} (h : k = 9) (h' : (n - 2451545) % 7 = 0) : avL k n = n + 1 := if_pos ⟨h, h'⟩
def dueN (k g : Int) : Option Int := if yF (lawH (g + 3760) (dMon2 k g) (fDay k)) = g then some (avL k (lawH (g + 3760) (dMon2 k g) (fDay k))) else if yF (lawH (g + 3761) (dMon2 k g) (fDay k)) = g then some (avL k (lawH (g + 3761) (dMon2 k g) (fDay k))) else none
theorem c_dueX (w : World) (k g : Int) (ev : Value) (t1 t2 : Tok) (d0 : Addr) (o0 : Obj) (hk : k = 0 ∨ k = 1 ∨ k = 2 ∨ k = 3 ∨ k = 4 ∨ k = 5 ∨ k = 6 ∨ k = 7 ∨ k = 8 ∨ k = 9 ∨ k = 10) (hA : yF (lawH (g + 3760) (dMon2 k g) (fDay k)) ≠ g) (hB : yF (lawH (g + 3761) (dMon2 k g) (fDay k)) ≠ g) : ConW w 288 6 [.int k t1, .int g t2, ev] (fun t => .str (Str.ofString "refused") t) [(d0, o0)] := by
  refine ConW.mk ?_
  unfold PW LO
  k_fill
  intros
  rename_i hret
  refine wpAny_call ?_
  k_dflt cell_enter
  (rename Fr _ _ _ _ => F1)
  have F2 : Fr _ _ _ (fun nm9 => List.lookup nm9 [(Str.ofString "eve", ev), (Str.ofString "year", .int g t2), (Str.ofString "which", .int k t1)]) := F1
  clear F1
  refine with_nd (by decide +kernel) ?_
  intro hND
  have hmon := dMon2_in k g
  k_with_none
  k_with "exec Assign" => ((fail_if_success (with_reducible rename JMark => hJ)); (with_reducible show wpAny _ _ (exec (Stmt.Assign [Expr.Tuple _ _ _] (Expr.Subscript _ _ _) _) _) _ _ _); k_dflt (refine' join2 (Str.ofString "month") (dMon k) (Str.ofString "day") (fDay k) ?F ?N ?_ ?_; (case F => k_asm); (case N => k_asm); rotate_left; intro t8 t9 h9 tk9 F9 N9; (try dsimp only); (try k_sweep); (try k_fold); rotate_left; intro hJ; (try k_fold); rcases hk with rfl | rfl | rfl | rfl | rfl | rfl | rfl | rfl | rfl | rfl | rfl))
  k_with "exec If" => ((fail_if_success (with_reducible rename JMark => hJ)); (with_reducible show wpAny _ _ (exec (Stmt.If (Expr.BoolOp _ [Expr.Compare _ _ _ _, Expr.Call _ _ _ _] _) _ _ _) _) _ _ _); k_dflt (refine' if_join (Str.ofString "month") (dMon2 k g) ?F ?N ?_ ?_; (case F => k_asm); (case N => k_asm); rotate_left; intro t9 h9 tk9 F9 N9; (try dsimp only); (try k_sweep); (try k_fold); rotate_left; intro hJ; (try k_fold)))
  k_steps
  k_with_none
  all_goals first
    | (refine joined2_end ?_ ?_ rfl (by k_asm) (by k_asm))
    | (refine joinedV_end ?_ rfl (by k_asm) (by k_asm))
    | (refine joined_set ?_ rfl (by k_asm) (by k_asm))
    | (refine joined_same ?_ (by repeat (first | with_reducible exact lk_hit | (with_reducible refine' lk_miss ?lkh ?_; (case lkh => decide +kernel)))) rfl (by k_asm) (by k_asm))
    | (exact hret _ _ _ (by k_asm) (by first | k_asm | (refine' cb_drop ?cbN ?cbS; (case cbN => assumption); (case cbS => kcj_all))))
    | (refine con3_end hret (by k_asm) (by first | k_asm | (refine' cb_drop ?cbN ?cbS; (case cbN => assumption); (case cbS => kcj_all))) (fun p hp => by (rw [List.mem_singleton.mp hp]; (show @LT.lt Nat _ d0 _); omega)) rfl rfl rfl)
  all_goals (clear hret; law_clear)
  all_goals (try simp only [fm7] at *)
  all_goals first
    | rfl
    | (show _ = dMon2 k g; unfold dMon2; (repeat' split) <;> first | rfl | (exfalso; simp_all; done) | (simp_all; done))
    | exact (avL_ne (by assumption)).symm
    | exact (avL_k (by assumption)).symm
    | exact (avL_yes (by assumption) (by assumption)).symm
    | (show _ = avL k _; unfold avL; (repeat' split) <;> first | rfl | (exfalso; simp_all; done) | (simp_all; done))
    | (show _ = eveF _ _; unfold eveF; (repeat' split) <;> first | rfl | (exfalso; simp_all; done) | (simp_all; done))
theorem c_dueA (w : World) (k g : Int) (ev : Value) (b : Bool) (t1 t2 : Tok) (d0 : Addr) (o0 : Obj) (hk : k = 0 ∨ k = 1 ∨ k = 2 ∨ k = 3 ∨ k = 4 ∨ k = 5 ∨ k = 6 ∨ k = 7 ∨ k = 8 ∨ k = 9 ∨ k = 10) (hv : EveV ev b) (hA : yF (lawH (g + 3760) (dMon2 k g) (fDay k)) = g) : ConW3 w 288 6 [.int k t1, .int g t2, ev] (yF (eveF (avL k (lawH (g + 3760) (dMon2 k g) (fDay k))) b)) (mF (eveF (avL k (lawH (g + 3760) (dMon2 k g) (fDay k))) b)) (dF (eveF (avL k (lawH (g + 3760) (dMon2 k g) (fDay k))) b)) [(d0, o0)] := by
  refine ConW3.mk ?_
  unfold PW LO
  k_fill
  intros
  rename_i hret
  refine wpAny_call ?_
  k_dflt cell_enter
  (rename Fr _ _ _ _ => F1)
  have F2 : Fr _ _ _ (fun nm9 => List.lookup nm9 [(Str.ofString "eve", ev), (Str.ofString "year", .int g t2), (Str.ofString "which", .int k t1)]) := F1
  clear F1
  refine with_nd (by decide +kernel) ?_
  intro hND
  have hmon := dMon2_in k g
  k_with_none
  k_with "exec Assign" => ((fail_if_success (with_reducible rename JMark => hJ)); (with_reducible show wpAny _ _ (exec (Stmt.Assign [Expr.Tuple _ _ _] (Expr.Subscript _ _ _) _) _) _ _ _); k_dflt (refine' join2 (Str.ofString "month") (dMon k) (Str.ofString "day") (fDay k) ?F ?N ?_ ?_; (case F => k_asm); (case N => k_asm); rotate_left; intro t8 t9 h9 tk9 F9 N9; (try dsimp only); (try k_sweep); (try k_fold); rotate_left; intro hJ; (try k_fold); rcases hk with rfl | rfl | rfl | rfl | rfl | rfl | rfl | rfl | rfl | rfl | rfl))
  k_with "exec If" => ((fail_if_success (with_reducible rename JMark => hJ)); (with_reducible show wpAny _ _ (exec (Stmt.If (Expr.BoolOp _ [Expr.Compare _ _ _ _, Expr.Call _ _ _ _] _) _ _ _) _) _ _ _); k_dflt (refine' if_join (Str.ofString "month") (dMon2 k g) ?F ?N ?_ ?_; (case F => k_asm); (case N => k_asm); rotate_left; intro t9 h9 tk9 F9 N9; (try dsimp only); (try k_sweep); (try k_fold); rotate_left; intro hJ; (try k_fold)))
  k_with "exec If" => ((fail_if_success (with_reducible rename JMark => hJ)); (with_reducible show wpAny _ _ (exec (Stmt.If (Expr.BoolOp _ [Expr.Compare _ _ _ _, Expr.Compare _ _ _ _] _) _ _ _) _) _ _ _); k_dflt (refine' if_join (Str.ofString "number") (avL k (lawH (g + 3760) (dMon2 k g) (fDay k))) ?F ?N ?_ ?_; (case F => k_asm); (case N => k_asm); rotate_left; intro t9 h9 tk9 F9 N9; (try dsimp only); (try k_sweep); (try k_fold); rotate_left; intro hJ; (try k_fold)))
  k_with "eval IfExp" => ((fail_if_success (with_reducible rename JMark => hJ)); k_dflt (refine' ifexp_join (eveF (avL k (lawH (g + 3760) (dMon2 k g) (fDay k))) b) ?F ?N ?_ ?_; (case F => k_asm); (case N => k_asm); rotate_left; intro t9 h9 tk9 F9 N9; (try dsimp only); (try k_sweep); (try k_fold); rotate_left; intro hJ; (try k_fold)))
  k_steps
  k_with_none
  all_goals first
    | (refine joined2_end ?_ ?_ rfl (by k_asm) (by k_asm))
    | (refine joinedV_end ?_ rfl (by k_asm) (by k_asm))
    | (refine joined_set ?_ rfl (by k_asm) (by k_asm))
    | (refine joined_same ?_ (by repeat (first | with_reducible exact lk_hit | (with_reducible refine' lk_miss ?lkh ?_; (case lkh => decide +kernel)))) rfl (by k_asm) (by k_asm))
    | (exact hret _ _ _ (by k_asm) (by first | k_asm | (refine' cb_drop ?cbN ?cbS; (case cbN => assumption); (case cbS => kcj_all))))
    | (refine con3_end hret (by k_asm) (by first | k_asm | (refine' cb_drop ?cbN ?cbS; (case cbN => assumption); (case cbS => kcj_all))) (fun p hp => by (rw [List.mem_singleton.mp hp]; (show @LT.lt Nat _ d0 _); omega)) rfl rfl rfl)
  all_goals (clear hret; law_clear)
  all_goals (try simp only [fm7] at *)
  all_goals first
    | rfl
    | (show _ = dMon2 k g; unfold dMon2; (repeat' split) <;> first | rfl | (exfalso; simp_all; done) | (simp_all; done))
    | exact (avL_ne (by assumption)).symm
    | exact (avL_k (by assumption)).symm
    | exact (avL_yes (by assumption) (by assumption)).symm
    | (show _ = avL k _; unfold avL; (repeat' split) <;> first | rfl | (exfalso; simp_all; done) | (simp_all; done))
    | (show _ = eveF _ _; unfold eveF; (repeat' split) <;> first | rfl | (exfalso; simp_all; done) | (simp_all; done))
theorem c_dueB (w : World) (k g : Int) (ev : Value) (b : Bool) (t1 t2 : Tok) (d0 : Addr) (o0 : Obj) (hk : k = 0 ∨ k = 1 ∨ k = 2 ∨ k = 3 ∨ k = 4 ∨ k = 5 ∨ k = 6 ∨ k = 7 ∨ k = 8 ∨ k = 9 ∨ k = 10) (hv : EveV ev b) (hA : yF (lawH (g + 3760) (dMon2 k g) (fDay k)) ≠ g) (hB : yF (lawH (g + 3761) (dMon2 k g) (fDay k)) = g) : ConW3 w 288 6 [.int k t1, .int g t2, ev] (yF (eveF (avL k (lawH (g + 3761) (dMon2 k g) (fDay k))) b)) (mF (eveF (avL k (lawH (g + 3761) (dMon2 k g) (fDay k))) b)) (dF (eveF (avL k (lawH (g + 3761) (dMon2 k g) (fDay k))) b)) [(d0, o0)] := by
  refine ConW3.mk ?_
  unfold PW LO
  k_fill
  intros
  rename_i hret
  refine wpAny_call ?_
  k_dflt cell_enter
  (rename Fr _ _ _ _ => F1)
  have F2 : Fr _ _ _ (fun nm9 => List.lookup nm9 [(Str.ofString "eve", ev), (Str.ofString "year", .int g t2), (Str.ofString "which", .int k t1)]) := F1
  clear F1
  refine with_nd (by decide +kernel) ?_
  intro hND
  have hmon := dMon2_in k g
  k_with_none
  k_with "exec Assign" => ((fail_if_success (with_reducible rename JMark => hJ)); (with_reducible show wpAny _ _ (exec (Stmt.Assign [Expr.Tuple _ _ _] (Expr.Subscript _ _ _) _) _) _ _ _); k_dflt (refine' join2 (Str.ofString "month") (dMon k) (Str.ofString "day") (fDay k) ?F ?N ?_ ?_; (case F => k_asm); (case N => k_asm); rotate_left; intro t8 t9 h9 tk9 F9 N9; (try dsimp only); (try k_sweep); (try k_fold); rotate_left; intro hJ; (try k_fold); rcases hk with rfl | rfl | rfl | rfl | rfl | rfl | rfl | rfl | rfl | rfl | rfl))
  k_with "exec If" => ((fail_if_success (with_reducible rename JMark => hJ)); (with_reducible show wpAny _ _ (exec (Stmt.If (Expr.BoolOp _ [Expr.Compare _ _ _ _, Expr.Call _ _ _ _] _) _ _ _) _) _ _ _); k_dflt (refine' if_join (Str.ofString "month") (dMon2 k g) ?F ?N ?_ ?_; (case F => k_asm); (case N => k_asm); rotate_left; intro t9 h9 tk9 F9 N9; (try dsimp only); (try k_sweep); (try k_fold); rotate_left; intro hJ; (try k_fold)))
  k_with "exec If" => ((fail_if_success (with_reducible rename JMark => hJ)); (with_reducible show wpAny _ _ (exec (Stmt.If (Expr.BoolOp _ [Expr.Compare _ _ _ _, Expr.Compare _ _ _ _] _) _ _ _) _) _ _ _); k_dflt (refine' if_join (Str.ofString "number") (avL k (lawH (g + 3761) (dMon2 k g) (fDay k))) ?F ?N ?_ ?_; (case F => k_asm); (case N => k_asm); rotate_left; intro t9 h9 tk9 F9 N9; (try dsimp only); (try k_sweep); (try k_fold); rotate_left; intro hJ; (try k_fold)))
  k_with "eval IfExp" => ((fail_if_success (with_reducible rename JMark => hJ)); k_dflt (refine' ifexp_join (eveF (avL k (lawH (g + 3761) (dMon2 k g) (fDay k))) b) ?F ?N ?_ ?_; (case F => k_asm); (case N => k_asm); rotate_left; intro t9 h9 tk9 F9 N9; (try dsimp only); (try k_sweep); (try k_fold); rotate_left; intro hJ; (try k_fold)))
  k_steps
  k_with_none
  all_goals first
    | (refine joined2_end ?_ ?_ rfl (by k_asm) (by k_asm))
    | (refine joinedV_end ?_ rfl (by k_asm) (by k_asm))
    | (refine joined_set ?_ rfl (by k_asm) (by k_asm))
    | (refine joined_same ?_ (by repeat (first | with_reducible exact lk_hit | (with_reducible refine' lk_miss ?lkh ?_; (case lkh => decide +kernel)))) rfl (by k_asm) (by k_asm))
    | (exact hret _ _ _ (by k_asm) (by first | k_asm | (refine' cb_drop ?cbN ?cbS; (case cbN => assumption); (case cbS => kcj_all))))
    | (refine con3_end hret (by k_asm) (by first | k_asm | (refine' cb_drop ?cbN ?cbS; (case cbN => assumption); (case cbS => kcj_all))) (fun p hp => by (rw [List.mem_singleton.mp hp]; (show @LT.lt Nat _ d0 _); omega)) rfl rfl rfl)
  all_goals (clear hret; law_clear)
  all_goals (try simp only [fm7] at *)
  all_goals first
    | rfl
    | (show _ = dMon2 k g; unfold dMon2; (repeat' split) <;> first | rfl | (exfalso; simp_all; done) | (simp_all; done))
    | exact (avL_ne (by assumption)).symm
    | exact (avL_k (by assumption)).symm
    | exact (avL_yes (by assumption) (by assumption)).symm
    | (show _ = avL k _; unfold avL; (repeat' split) <;> first | rfl | (exfalso; simp_all; done) | (simp_all; done))
    | (show _ = eveF _ _; unfold eveF; (repeat' split) <;> first | rfl | (exfalso; simp_all; done) | (simp_all; done))
end Mine
end
section
open PySem PySem.W PyProof.Rows
set_option maxRecDepth 100000
set_option maxHeartbeats 4000000
namespace Mine
def fstF (k : Int) : Int := if k = 0 then 3031 else if k = 1 then 22202 else if k = 2 then 20226 else if k = 3 then 59917 else if k = 4 then 48327 else if k = 5 then 19105 else if k = 6 then 17471 else if k = 7 then 52203 else if k = 8 then -3757 else if k = 9 then 33906 else 67004
def lstF (k : Int) : Int := if k = 0 then 94468 else if k = 1 then 113696 else if k = 2 then 111492 else if k = 3 then 66841 else if k = 4 then 55270 else if k = 5 then 110257 else if k = 6 then 108661 else if k = 7 then 59260 else if k = 8 then 83068 else if k = 9 then 40944 else 73776
theorem cnt_tab : ∀ r : Fin 19, cntF (r.val : Int) = (7 * (r.val : Int) + 1) / 19 := by decide +kernel
theorem cnt_of (y : Int) : cntF ((y - 1) % 19) = (7 * ((y - 1) % 19) + 1) / 19 := by
  have h0 : 0 ≤ (y - 1) % 19 := by omega
  have h1 : ((y - 1) % 19).toNat < 19 := by omega
  have h := cnt_tab ⟨((y - 1) % 19).toNat, h1⟩
  have e : (((y - 1) % 19).toNat : Int) = (y - 1) % 19 := by omega
  simp only [e] at h
  exact h
theorem split19 (y : Int) : ∃ q r : Int, y = 19 * q + r + 1 ∧ (r = 0 ∨ r = 1 ∨ r = 2 ∨ r = 3 ∨ r = 4 ∨ r = 5 ∨ r = 6 ∨ r = 7 ∨ r = 8 ∨ r = 9 ∨ r = 10 ∨ r = 11 ∨ r = 12 ∨ r = 13 ∨ r = 14 ∨ r = 15 ∨ r = 16 ∨ r = 17 ∨ r = 18) := ⟨(y - 1) / 19, (y - 1) % 19, by omega, by omega⟩
def monF (y : Int) : Int := (235 * y - 234) / 19
theorem mol_eq (y : Int) : tMol y = 31524 + 765433 * monF y := by
  unfold tMol monF
  rw [cnt_of]
  omega
theorem long_tab : ∀ r : Fin 19, longF ((r.val : Int) + 1) = decide ((7 * ((r.val : Int) + 1) + 1) % 19 < 7) := by decide +kernel
theorem long_of (y : Int) : longF y = decide ((y * 7 + 1) % 19 < 7) := by
  have h0 : 0 ≤ (y - 1) % 19 := by omega
  have h1 : ((y - 1) % 19).toNat < 19 := by omega
  have h := long_tab ⟨((y - 1) % 19).toNat, h1⟩
  have e : (((y - 1) % 19).toNat : Int) = (y - 1) % 19 := by omega
  simp only [e] at h
  have e2 : longF ((y - 1) % 19 + 1) = longF y := by
    unfold longF
    have : ((y - 1) % 19 + 1 - 1) % 19 + 1 = (y - 1) % 19 + 1 := by omega
    rw [this]
  rw [e2] at h
  rw [h]
  congr 1
  obtain ⟨q, r, rfl, hr⟩ := split19 y
  have e9 : (19 * q + r + 1 - 1) % 19 = r := by omega
  rw [e9]
  exact propext (by rcases hr with rfl | rfl | rfl | rfl | rfl | rfl | rfl | rfl | rfl | rfl | rfl | rfl | rfl | rfl | rfl | rfl | rfl | rfl | rfl <;> omega)
theorem leap_long (y : Int) : leapF y = longF y := (long_of y).symm
theorem mon_next (y : Int) : monF (y + 1) = monF y + (if longF y = true then 13 else 12) := by
  rw [long_of]
  unfold monF
  simp only [decide_eq_true_eq]
  obtain ⟨q, r, rfl, hr⟩ := split19 y
  rcases hr with rfl | rfl | rfl | rfl | rfl | rfl | rfl | rfl | rfl | rfl | rfl | rfl | rfl | rfl | rfl | rfl | rfl | rfl | rfl <;> (split <;> omega)
def eF (y : Int) : Int := if 19440 ≤ tMol y % 25920 then tMol y / 25920 + 1 else tMol y / 25920
def aF (y : Int) : Int := if 3 * eF y % 7 < 3 then eF y + 1 else eF y
theorem e_day (y : Int) : d1day y + 1 = eF y := by
  unfold eF
  rw [mol_eq]
  show monF y * 29 + (12084 + 13753 * monF y) / 25920 + 1 = _
  generalize monF y = M
  split <;> omega
theorem a_day (y : Int) : delay1F y + 1 = aF y := by
  unfold delay1F aF
  rw [e_day]
  have := e_day y
  split <;> omega
/-- a common year's gap -/
theorem gap12 {T T1 : Int} (h : T1 = T + 765433 * 12) (e e1 a a1 : Int) (he : e = if 19440 ≤ T % 25920 then T / 25920 + 1 else T / 25920) (he1 : e1 = if 19440 ≤ T1 % 25920 then T1 / 25920 + 1 else T1 / 25920) (ha : a = if 3 * e % 7 < 3 then e + 1 else e) (ha1 : a1 = if 3 * e1 % 7 < 3 then e1 + 1 else e1) :
    (a1 - a = 356 ↔ (T / 25920 % 7 = 2 ∧ 9924 ≤ T % 25920 ∧ T % 25920 < 19440)) ∧ a1 - a ≠ 382 := by
  have p0 : 0 ≤ T % 25920 := by omega
  have p1 : T % 25920 < 25920 := by omega
  have eD : T = 25920 * (T / 25920) + T % 25920 := by omega
  have eD1 : T1 / 25920 = T / 25920 + 354 + (if 16404 ≤ T % 25920 then 1 else 0) ∧ T1 % 25920 = T % 25920 + 9516 - (if 16404 ≤ T % 25920 then 25920 else 0) := by
    split <;> omega
  rw [eD1.1, eD1.2] at he1
  clear eD1 eD h
  generalize T % 25920 = p at *
  generalize T / 25920 = D at *
  have hw : D = 7 * (D / 7) + D % 7 := by omega
  have hw1 : D % 7 = 0 ∨ D % 7 = 1 ∨ D % 7 = 2 ∨ D % 7 = 3 ∨ D % 7 = 4 ∨ D % 7 = 5 ∨ D % 7 = 6 := by omega
  generalize D % 7 = w at *
  generalize D / 7 = k at *
  subst hw
  subst ha; subst ha1; subst he; subst he1
  rcases hw1 with rfl | rfl | rfl | rfl | rfl | rfl | rfl <;> (repeat' split) <;> omega
theorem gap13 {T T1 : Int} (h : T1 = T + 765433 * 13) (e e1 a a1 : Int) (he : e = if 19440 ≤ T % 25920 then T / 25920 + 1 else T / 25920) (he1 : e1 = if 19440 ≤ T1 % 25920 then T1 / 25920 + 1 else T1 / 25920) (ha : a = if 3 * e % 7 < 3 then e + 1 else e) (ha1 : a1 = if 3 * e1 % 7 < 3 then e1 + 1 else e1) :
    (a1 - a = 382 ↔ (T1 / 25920 % 7 = 1 ∧ 16789 ≤ T1 % 25920 ∧ T1 % 25920 < 19440)) ∧ a1 - a ≠ 356 := by
  have p0 : 0 ≤ T1 % 25920 := by omega
  have p1 : T1 % 25920 < 25920 := by omega
  have eD : T1 = 25920 * (T1 / 25920) + T1 % 25920 := by omega
  have eD1 : T / 25920 = T1 / 25920 - 383 - (if T1 % 25920 < 23269 then 1 else 0) ∧ T % 25920 = T1 % 25920 - 23269 + (if T1 % 25920 < 23269 then 25920 else 0) := by
    split <;> omega
  rw [eD1.1, eD1.2] at he
  clear eD1 eD h
  generalize T1 % 25920 = p at *
  generalize T1 / 25920 = D at *
  have hw : D = 7 * (D / 7) + D % 7 := by omega
  have hw1 : D % 7 = 0 ∨ D % 7 = 1 ∨ D % 7 = 2 ∨ D % 7 = 3 ∨ D % 7 = 4 ∨ D % 7 = 5 ∨ D % 7 = 6 := by omega
  generalize D % 7 = w at *
  generalize D / 7 = k at *
  subst hw
  subst ha; subst ha1; subst he; subst he1
  rcases hw1 with rfl | rfl | rfl | rfl | rfl | rfl | rfl <;> (repeat' split) <;> omega
end Mine
end
section
open PySem PySem.W PyProof.Rows
set_option maxRecDepth 100000
set_option maxHeartbeats 4000000
namespace Mine
theorem any035 (x : Int) : ([0, 3, 5].any (· == x) = true) ↔ (x = 0 ∨ x = 3 ∨ x = 5) := by
  simp; omega
theorem mol_12 {y : Int} (h : longF y = false) : tMol (y + 1) = tMol y + 765433 * 12 := by
  rw [mol_eq, mol_eq, mon_next, h]; simp; omega
theorem mol_13 {y : Int} (h : longF y = true) : tMol (y + 1) = tMol y + 765433 * 13 := by
  rw [mol_eq, mol_eq, mon_next, h]; simp; omega
theorem gapA {y : Int} (h : longF y = false) : (aF (y + 1) - aF y = 356 ↔ (tMol y / 25920 % 7 = 2 ∧ 9924 ≤ tMol y % 25920 ∧ tMol y % 25920 < 19440)) ∧ aF (y + 1) - aF y ≠ 382 := gap12 (mol_12 h) _ _ _ _ rfl rfl rfl rfl
theorem gapB {y : Int} (h : longF y = true) : (aF (y + 1) - aF y = 382 ↔ (tMol (y + 1) / 25920 % 7 = 1 ∧ 16789 ≤ tMol (y + 1) % 25920 ∧ tMol (y + 1) % 25920 < 19440)) ∧ aF (y + 1) - aF y ≠ 356 := gap13 (mol_13 h) _ _ _ _ rfl rfl rfl rfl
theorem d2_eq (y : Int) : delay2F y = if aF (y + 1) - aF y = 356 then 2 else if aF y - aF (y - 1) = 382 then 1 else 0 := by
  unfold delay2F
  have h1 := a_day (y + 1)
  have h2 := a_day y
  have h3 := a_day (y - 1)
  have e1 : (delay1F (y + 1) - delay1F y = 356) = (aF (y + 1) - aF y = 356) := propext (by omega)
  have e2 : (delay1F y - delay1F (y - 1) = 382) = (aF y - aF (y - 1) = 382) := propext (by omega)
  simp only [e1, e2]
/-- the two delays by the molad's day and parts -/
theorem d2_by (y : Int) : delay2F y = if longF y = false ∧ tMol y / 25920 % 7 = 2 ∧ 9924 ≤ tMol y % 25920 ∧ tMol y % 25920 < 19440 then 2 else if longF (y - 1) = true ∧ tMol y / 25920 % 7 = 1 ∧ 16789 ≤ tMol y % 25920 ∧ tMol y % 25920 < 19440 then 1 else 0 := by
  rw [d2_eq]
  have e1 : (aF (y + 1) - aF y = 356) = (longF y = false ∧ tMol y / 25920 % 7 = 2 ∧ 9924 ≤ tMol y % 25920 ∧ tMol y % 25920 < 19440) := by
    apply propext
    cases h : longF y
    · rw [(gapA h).1]; simp
    · have := (gapB h).2; simp [this]
  have hy : y - 1 + 1 = y := by omega
  have e2 : (aF y - aF (y - 1) = 382) = (longF (y - 1) = true ∧ tMol y / 25920 % 7 = 1 ∧ 16789 ≤ tMol y % 25920 ∧ tMol y % 25920 < 19440) := by
    apply propext
    cases h : longF (y - 1)
    · have := (gapA h).2; rw [hy] at this; simp [this]
    · have := (gapB h).1; rw [hy] at this; rw [this]; simp
  simp only [e1, e2]
theorem tD2_plain (y : Int) : tD2 y = aF y + delay2F y := by
  rw [d2_by]
  unfold tD2 aF eF
  simp only [any035]
  unfold tD1
  have p0 : 0 ≤ tMol y % 25920 := by omega
  have p1 : tMol y % 25920 < 25920 := by omega
  generalize tMol y % 25920 = p at *
  generalize tMol y / 25920 = D at *
  have hw : D = 7 * (D / 7) + D % 7 := by omega
  have hw1 : D % 7 = 0 ∨ D % 7 = 1 ∨ D % 7 = 2 ∨ D % 7 = 3 ∨ D % 7 = 4 ∨ D % 7 = 5 ∨ D % 7 = 6 := by omega
  generalize D / 7 = k at *
  have hm : ∀ i : Int, (D + i) % 7 = (D % 7 + i) % 7 := fun i => by omega
  cases longF y <;> cases longF (y - 1) <;> simp only [eq_self, Bool.false_eq_true, reduceCtorEq, false_and, true_and, and_false, if_false] <;>
  rcases hw1 with h | h | h | h | h | h | h <;> simp only [h, eq_self, true_and, and_true] at * <;> (repeat' split) <;> (try simp only [true_and, and_true] at *) <;> omega
theorem new_tish (y d : Int) : newF y d = tishF y + d - 1 := by
  unfold newF tishF
  have h := tD2_plain y
  have := a_day y
  omega
theorem tD2_lo (y : Int) : tMol y / 25920 ≤ tD2 y ∧ tD2 y ≤ tMol y / 25920 + 2 := by
  unfold tD2 tD1
  (repeat' split) <;> (try simp only [true_and, and_true] at *) <;> omega
theorem size_12 {y : Int} (h : longF y = false) : 352 ≤ sizeF y ∧ sizeF y ≤ 357 := by
  unfold sizeF tishF
  have h1 := tD2_lo y
  have h2 := tD2_lo (y + 1)
  rw [mol_12 h] at h2
  omega
theorem size_13 {y : Int} (h : longF y = true) : 381 ≤ sizeF y ∧ sizeF y ≤ 386 := by
  unfold sizeF tishF
  have h1 := tD2_lo y
  have h2 := tD2_lo (y + 1)
  rw [mol_13 h] at h2
  omega
theorem size_long (y : Int) : 360 < sizeF y ↔ longF y = true := by
  cases h : longF y
  · have := size_12 h; simp; omega
  · have := size_13 h; simp; omega
theorem tish_pos {y : Int} (h : 1 ≤ y) : 347997 ≤ tishF y := by
  unfold tishF
  have h1 := tD2_lo y
  rw [mol_eq] at h1
  have : 0 ≤ monF y := by unfold monF; omega
  omega
end Mine
end
section
open PySem PySem.W PyProof.Rows
set_option maxRecDepth 100000
set_option maxHeartbeats 4000000
namespace Mine
theorem mid_pos {n : Int} (h : 1 ≤ n) : midnightF n = n := by unfold midnightF; split <;> omega
theorem ydays_size {y : Int} (hy : 1 ≤ y) : ydaysF y = sizeF y := by
  unfold ydaysF sizeF
  rw [new_tish, new_tish, mid_pos, mid_pos]
  · omega
  · have := tish_pos hy; omega
  · have := tish_pos (y := y + 1) (by omega); omega
theorem ml7 (y : Int) : mlenF y 7 = 30 := by unfold mlenF; simp
theorem ml8 {y : Int} (hy : 1 ≤ y) : mlenF y 8 = if sizeF y % 10 = 5 then 30 else 29 := by unfold mlenF; rw [ydays_size hy]; simp
theorem ml9 {y : Int} (hy : 1 ≤ y) : mlenF y 9 = if sizeF y % 10 = 3 then 29 else 30 := by unfold mlenF; rw [ydays_size hy]; simp
theorem ml10 (y : Int) : mlenF y 10 = 29 := by unfold mlenF; simp
theorem ml11 (y : Int) : mlenF y 11 = 30 := by unfold mlenF; simp
theorem ml12 (y : Int) : mlenF y 12 = if longF y = false then 29 else 30 := by unfold mlenF; rw [leap_long]; simp
theorem ml13 (y : Int) : mlenF y 13 = 29 := by unfold mlenF; simp
theorem ml1 (y : Int) : mlenF y 1 = 30 := by unfold mlenF; simp
theorem ml2 (y : Int) : mlenF y 2 = 29 := by unfold mlenF; simp
theorem ml3 (y : Int) : mlenF y 3 = 30 := by unfold mlenF; simp
theorem ml4 (y : Int) : mlenF y 4 = 29 := by unfold mlenF; simp
theorem ms_0 (y a : Int) : msum y a a = 0 := by unfold msum rangeKs; simp
theorem ms_s {y a b c : Int} (h : c = b + 1) (hab : a ≤ b) : msum y a c = msum y a b + mlenF y b := by
  subst h
  unfold msum rangeKs
  have e : (b + 1 - a).toNat = (b - a).toNat + 1 := by omega
  rw [e, List.range_succ]
  simp
  congr 1
  omega
theorem ms78 (y : Int) : msum y 7 8 = 30 := by rw [ms_s (b := 7) (c := 8) (by decide) (by omega), ms_0, ml7]; rfl
theorem ms79 (y : Int) : msum y 7 9 = 30 + mlenF y 8 := by rw [ms_s (b := 8) (c := 9) (by decide) (by omega), ms78]
theorem ms7a (y : Int) : msum y 7 10 = 30 + mlenF y 8 + mlenF y 9 := by rw [ms_s (b := 9) (c := 10) (by decide) (by omega), ms79]
theorem ms7b (y : Int) : msum y 7 11 = 30 + mlenF y 8 + mlenF y 9 + 29 := by rw [ms_s (b := 10) (c := 11) (by decide) (by omega), ms7a, ml10]
theorem ms7c (y : Int) : msum y 7 12 = 30 + mlenF y 8 + mlenF y 9 + 29 + 30 := by rw [ms_s (b := 11) (c := 12) (by decide) (by omega), ms7b, ml11]
theorem ms7d (y : Int) : msum y 7 13 = 30 + mlenF y 8 + mlenF y 9 + 29 + 30 + mlenF y 12 := by rw [ms_s (b := 12) (c := 13) (by decide) (by omega), ms7c]
theorem ms7e (y : Int) : msum y 7 14 = 30 + mlenF y 8 + mlenF y 9 + 29 + 30 + mlenF y 12 + 29 := by rw [ms_s (b := 13) (c := 14) (by decide) (by omega), ms7d, ml13]
theorem ms11 (y : Int) : msum y 1 1 = 0 := ms_0 y 1
theorem ms12 (y : Int) : msum y 1 2 = 30 := by rw [ms_s (b := 1) (c := 2) (by decide) (by omega), ms11, ml1]; rfl
theorem ms13 (y : Int) : msum y 1 3 = 59 := by rw [ms_s (b := 2) (c := 3) (by decide) (by omega), ms12, ml2]; rfl
theorem ms14 (y : Int) : msum y 1 4 = 89 := by rw [ms_s (b := 3) (c := 4) (by decide) (by omega), ms13, ml3]; rfl
theorem ms15 (y : Int) : msum y 1 5 = 118 := by rw [ms_s (b := 4) (c := 5) (by decide) (by omega), ms14, ml4]; rfl
theorem msAll (y : Int) : msum y 7 (monthsF y + 1) = 30 + mlenF y 8 + mlenF y 9 + 29 + 30 + (if longF y = true then 59 else 29) := by
  unfold monthsF
  rw [leap_long]
  cases h : longF y
  · simp only [Bool.false_eq_true, if_false]
    rw [show (12 : Int) + 1 = 13 from rfl, ms7d, ml12, h, if_pos rfl]
  · simp only [if_true]
    rw [show (13 : Int) + 1 = 14 from rfl, ms7e, ml12, h, if_neg (by decide)]
    omega
/-- the day's place in the year, by the months ahead of it -/
def offF (y m : Int) : Int :=
  let b := 30 + mlenF y 8 + mlenF y 9 + 29 + 30
  let c := b + (if longF y = true then 59 else 29)
  if m = 7 then 0 else if m = 9 then 30 + mlenF y 8 else if m = 11 then 30 + mlenF y 8 + mlenF y 9 + 29 else if m = 12 then b else if m = 13 then b + mlenF y 12
  else if m = 1 then c else if m = 2 then c + 30 else if m = 3 then c + 59 else c + 118
def InM (m : Int) : Prop := m = 7 ∨ m = 9 ∨ m = 11 ∨ m = 12 ∨ m = 13 ∨ m = 1 ∨ m = 2 ∨ m = 3 ∨ m = 5
theorem ml_lo (y m : Int) : 29 ≤ mlenF y m ∧ mlenF y m ≤ 30 := by unfold mlenF; (repeat' split) <;> omega
theorem off_lo (y m : Int) : 0 ≤ offF y m := by
  have h8 := ml_lo y 8
  have h9 := ml_lo y 9
  have h12 := ml_lo y 12
  unfold offF
  dsimp only
  (repeat' split) <;> omega
theorem heb_off {y m d : Int} (hy : 1 ≤ y) (hd : 1 ≤ d) (hm : InM m) : hebF y m d = tishF y + offF y m + d - 1 := by
  have e : (if m < 7 then newF y d + msum y 7 (monthsF y + 1) + msum y 1 m else newF y d + msum y 7 m) = tishF y + offF y m + d - 1 := by
    rw [new_tish, msAll]
    rcases hm with rfl | rfl | rfl | rfl | rfl | rfl | rfl | rfl | rfl
    · simp [offF, ms_0]
    · simp [offF, ms79]; omega
    · simp [offF, ms7b]; omega
    · simp [offF, ms7c]; omega
    · simp [offF, ms7d]; omega
    · simp [offF, ms11]; omega
    · simp [offF, ms12]; omega
    · simp [offF, ms13]; omega
    · simp [offF, ms15]; omega
  unfold hebF
  rw [e, mid_pos]
  have := tish_pos hy
  have := off_lo y m
  omega
theorem law_off {y m d : Int} (hy : 1 ≤ y) (hm : InM m) : lawH y m d = tishF y + offF y m + d - 1 := by
  unfold lawH rowsF
  rw [← ml8 hy, ← ml9 hy]
  have e12 := ml12 y
  have hs := size_long y
  cases h : longF y
  · rw [h] at hs e12
    rw [if_pos rfl] at e12
    rw [if_neg (by simpa using hs)]
    rcases hm with rfl | rfl | rfl | rfl | rfl | rfl | rfl | rfl | rfl <;> (simp [goF, offF, h, e12]; try omega)
  · rw [h] at hs e12
    rw [if_neg (by decide)] at e12
    rw [if_pos (by simpa using hs)]
    rcases hm with rfl | rfl | rfl | rfl | rfl | rfl | rfl | rfl | rfl <;> (simp [goF, offF, h, e12]; try omega)
theorem heb_law {y m d : Int} (hy : 1 ≤ y) (hd : 1 ≤ d) (hm : InM m) : hebF y m d = lawH y m d := by
  rw [heb_off hy hd hm, law_off hy hm]
def In11 (k : Int) : Prop := k = 0 ∨ k = 1 ∨ k = 2 ∨ k = 3 ∨ k = 4 ∨ k = 5 ∨ k = 6 ∨ k = 7 ∨ k = 8 ∨ k = 9 ∨ k = 10
theorem fmon_eq {k : Int} (g : Int) (hk : In11 k) : fMon k g = dMon2 k g := by
  unfold fMon dMon2 dMon
  rw [leap_long]
  rcases hk with rfl | rfl | rfl | rfl | rfl | rfl | rfl | rfl | rfl | rfl | rfl <;> simp
theorem fmon_in {k : Int} (g : Int) (hk : In11 k) : InM (fMon k g) := by
  unfold fMon InM
  rcases hk with rfl | rfl | rfl | rfl | rfl | rfl | rfl | rfl | rfl | rfl | rfl <;> simp
  split <;> simp
theorem fday_lo {k : Int} (hk : In11 k) : 1 ≤ fDay k := by
  unfold fDay
  rcases hk with rfl | rfl | rfl | rfl | rfl | rfl | rfl | rfl | rfl | rfl | rfl <;> simp
theorem av_eq (k n : Int) : (if k = 9 then avF n else n) = avL k n := by
  unfold avF avL
  by_cases h : k = 9
  · rw [if_pos h]
    by_cases h2 : n % 7 = 5
    · rw [if_pos h2, if_pos ⟨h, by omega⟩]
    · rw [if_neg h2, if_neg (fun hc => h2 (by omega))]
  · rw [if_neg h, if_neg (fun hc => h hc.1)]
theorem feast_due (k g : Int) (hk : In11 k) (hg : -3759 ≤ g) : feastN k g = dueN k g := by
  unfold feastN dueN gyOk
  have h1 := heb_law (y := g + 3760) (by omega) (fday_lo hk) (fmon_in g hk)
  have h2 := heb_law (y := g + 3760 + 1) (by omega) (fday_lo hk) (fmon_in g hk)
  have h3 : (fun n => if k = 9 then avF n else n) = avL k := funext (av_eq k)
  rw [h1, h2, h3, fmon_eq g hk, show g + 3760 + 1 = g + 3761 from by omega]
  split
  · rfl
  · split <;> rfl
theorem feast_first (k : Int) (hk : In11 k) : feastN k (fstF k) = none := by
  rcases hk with rfl | rfl | rfl | rfl | rfl | rfl | rfl | rfl | rfl | rfl | rfl <;> decide +kernel
end Mine
end
section
open PySem PySem.W PyProof.Rows
set_option maxRecDepth 100000
set_option maxHeartbeats 4000000
set_option linter.unusedSimpArgs false
namespace Mine
theorem lin {g y off : Int} (h : 25920 * (400 * 1721426 + 146097 * g + 396) ≤ 400 * (25920 * (347997 + off) + tMol y - 25919)) : janF (g + 1) ≤ tishF y + off := by
  unfold janF tishF
  have h1 := (tD2_lo y).1
  omega
def ckF (m d g : Int) : Bool := decide (janF (g + 1) ≤ tishF (g + 3760) + offF (g + 3760) m + d - 1)
theorem ck_of {m d : Int} {g0 : Int} {n : Nat} (h : (List.range n).all (fun i => ckF m d (g0 + 19 * (i : Int))) = true) {g : Int} (h1 : g0 ≤ g) (h2 : g < g0 + 19 * (n : Int)) (h3 : (g - g0) % 19 = 0) : janF (g + 1) ≤ tishF (g + 3760) + offF (g + 3760) m + d - 1 := by
  have h4 := List.all_eq_true.mp h ((g - g0) / 19).toNat (List.mem_range.mpr (by omega))
  have e : g0 + 19 * ((((g - g0) / 19).toNat : Nat) : Int) = g := by omega
  rw [e] at h4
  exact of_decide_eq_true h4
theorem mol_r (q : Int) {y r c : Int} (h : y = 19 * q + r + 1) (hc : (235 * r + 1) / 19 = c) : tMol y = 31524 + 765433 * (235 * q + c) := by
  subst h; subst hc
  rw [mol_eq]; unfold monF; omega
theorem long_r (q : Int) {y r : Int} (h : y = 19 * q + r + 1) : longF y = decide ((7 * (r + 1) + 1) % 19 < 7) := by
  subst h; rw [long_of, show (19 * q + r + 1) * 7 + 1 = (7 * (r + 1) + 1) + 19 * (7 * q) from by omega, Int.add_mul_emod_self_left]
/-- the least places -/
theorem lo_7 (y : Int) : 0 ≤ offF y 7 := by
  have h8 := ml_lo y 8
  have h9 := ml_lo y 9
  unfold offF; simp; try omega
theorem lo_9 (y : Int) : 59 ≤ offF y 9 := by
  have h8 := ml_lo y 8
  have h9 := ml_lo y 9
  unfold offF; simp; try omega
theorem lo_11 (y : Int) : 117 ≤ offF y 11 := by
  have h8 := ml_lo y 8
  have h9 := ml_lo y 9
  unfold offF; simp; try omega
theorem lo_12 (y : Int) : 147 ≤ offF y 12 := by
  have h8 := ml_lo y 8
  have h9 := ml_lo y 9
  unfold offF; simp; try omega
theorem lo_13 {y : Int} (h : longF y = true) : 177 ≤ offF y 13 := by
  have h8 := ml_lo y 8
  have h9 := ml_lo y 9
  have h12 := ml12 y
  rw [h] at h12
  unfold offF; simp at *; omega
theorem lo_1 (y : Int) : 147 + (if longF y = true then 59 else 29) + 0 ≤ offF y 1 := by
  have h8 := ml_lo y 8
  have h9 := ml_lo y 9
  unfold offF; simp; omega
theorem lo_2 (y : Int) : 147 + (if longF y = true then 59 else 29) + 30 ≤ offF y 2 := by
  have h8 := ml_lo y 8
  have h9 := ml_lo y 9
  unfold offF; simp; omega
theorem lo_3 (y : Int) : 147 + (if longF y = true then 59 else 29) + 59 ≤ offF y 3 := by
  have h8 := ml_lo y 8
  have h9 := ml_lo y 9
  unfold offF; simp; omega
theorem lo_5 (y : Int) : 147 + (if longF y = true then 59 else 29) + 118 ≤ offF y 5 := by
  have h8 := ml_lo y 8
  have h9 := ml_lo y 9
  unfold offF; simp; omega
theorem core_0 {g : Int} (h : 94468 < g) : janF (g + 1) ≤ tishF (g + 3760) + offF (g + 3760) 9 + 25 - 1 := by
  obtain ⟨q, r, hq, hr⟩ := split19 (g + 3760)
  have hL := long_r q hq
  have hl := lo_9 (g + 3760)
  rcases hr with rfl | rfl | rfl | rfl | rfl | rfl | rfl | rfl | rfl | rfl | rfl | rfl | rfl | rfl | rfl | rfl | rfl | rfl | rfl
  · have hM := mol_r q hq (c := 0) (by decide)
    have hb : longF (g + 3760) = false := hL.trans (by decide)
    have h9 := lin (g := g) (y := g + 3760) (off := 83) (by rw [hM]; omega); omega
  · have hM := mol_r q hq (c := 12) (by decide)
    have hb : longF (g + 3760) = false := hL.trans (by decide)
    have h9 := lin (g := g) (y := g + 3760) (off := 83) (by rw [hM]; omega); omega
  · have hM := mol_r q hq (c := 24) (by decide)
    have hb : longF (g + 3760) = true := hL.trans (by decide)
    have h9 := lin (g := g) (y := g + 3760) (off := 83) (by rw [hM]; omega); omega
  · have hM := mol_r q hq (c := 37) (by decide)
    have hb : longF (g + 3760) = false := hL.trans (by decide)
    have h9 := lin (g := g) (y := g + 3760) (off := 83) (by rw [hM]; omega); omega
  · have hM := mol_r q hq (c := 49) (by decide)
    have hb : longF (g + 3760) = false := hL.trans (by decide)
    have h9 := lin (g := g) (y := g + 3760) (off := 83) (by rw [hM]; omega); omega
  · have hM := mol_r q hq (c := 61) (by decide)
    have hb : longF (g + 3760) = true := hL.trans (by decide)
    by_cases h8 : g < 94590
    · exact ck_of (m := 9) (d := 25) (g0 := 94476) (n := 6) (by decide +kernel) (by omega) (by omega) (by omega)
    · have h9 := lin (g := g) (y := g + 3760) (off := 83) (by rw [hM]; omega); omega
  · have hM := mol_r q hq (c := 74) (by decide)
    have hb : longF (g + 3760) = false := hL.trans (by decide)
    have h9 := lin (g := g) (y := g + 3760) (off := 83) (by rw [hM]; omega); omega
  · have hM := mol_r q hq (c := 86) (by decide)
    have hb : longF (g + 3760) = true := hL.trans (by decide)
    have h9 := lin (g := g) (y := g + 3760) (off := 83) (by rw [hM]; omega); omega
  · have hM := mol_r q hq (c := 99) (by decide)
    have hb : longF (g + 3760) = false := hL.trans (by decide)
    have h9 := lin (g := g) (y := g + 3760) (off := 83) (by rw [hM]; omega); omega
  · have hM := mol_r q hq (c := 111) (by decide)
    have hb : longF (g + 3760) = false := hL.trans (by decide)
    have h9 := lin (g := g) (y := g + 3760) (off := 83) (by rw [hM]; omega); omega
  · have hM := mol_r q hq (c := 123) (by decide)
    have hb : longF (g + 3760) = true := hL.trans (by decide)
    have h9 := lin (g := g) (y := g + 3760) (off := 83) (by rw [hM]; omega); omega
  · have hM := mol_r q hq (c := 136) (by decide)
    have hb : longF (g + 3760) = false := hL.trans (by decide)
    have h9 := lin (g := g) (y := g + 3760) (off := 83) (by rw [hM]; omega); omega
  · have hM := mol_r q hq (c := 148) (by decide)
    have hb : longF (g + 3760) = false := hL.trans (by decide)
    have h9 := lin (g := g) (y := g + 3760) (off := 83) (by rw [hM]; omega); omega
  · have hM := mol_r q hq (c := 160) (by decide)
    have hb : longF (g + 3760) = true := hL.trans (by decide)
    have h9 := lin (g := g) (y := g + 3760) (off := 83) (by rw [hM]; omega); omega
  · have hM := mol_r q hq (c := 173) (by decide)
    have hb : longF (g + 3760) = false := hL.trans (by decide)
    have h9 := lin (g := g) (y := g + 3760) (off := 83) (by rw [hM]; omega); omega
  · have hM := mol_r q hq (c := 185) (by decide)
    have hb : longF (g + 3760) = false := hL.trans (by decide)
    have h9 := lin (g := g) (y := g + 3760) (off := 83) (by rw [hM]; omega); omega
  · have hM := mol_r q hq (c := 197) (by decide)
    have hb : longF (g + 3760) = true := hL.trans (by decide)
    by_cases h8 : g < 94962
    · exact ck_of (m := 9) (d := 25) (g0 := 94487) (n := 25) (by decide +kernel) (by omega) (by omega) (by omega)
    · have h9 := lin (g := g) (y := g + 3760) (off := 83) (by rw [hM]; omega); omega
  · have hM := mol_r q hq (c := 210) (by decide)
    have hb : longF (g + 3760) = false := hL.trans (by decide)
    have h9 := lin (g := g) (y := g + 3760) (off := 83) (by rw [hM]; omega); omega
  · have hM := mol_r q hq (c := 222) (by decide)
    have hb : longF (g + 3760) = true := hL.trans (by decide)
    have h9 := lin (g := g) (y := g + 3760) (off := 83) (by rw [hM]; omega); omega
theorem core_1 {g : Int} (h : 113696 < g) : janF (g + 1) ≤ tishF (g + 3760) + offF (g + 3760) 7 + 1 - 1 := by
  obtain ⟨q, r, hq, hr⟩ := split19 (g + 3760)
  have hL := long_r q hq
  have hl := lo_7 (g + 3760)
  rcases hr with rfl | rfl | rfl | rfl | rfl | rfl | rfl | rfl | rfl | rfl | rfl | rfl | rfl | rfl | rfl | rfl | rfl | rfl | rfl
  · have hM := mol_r q hq (c := 0) (by decide)
    have hb : longF (g + 3760) = false := hL.trans (by decide)
    have h9 := lin (g := g) (y := g + 3760) (off := 0) (by rw [hM]; omega); omega
  · have hM := mol_r q hq (c := 12) (by decide)
    have hb : longF (g + 3760) = false := hL.trans (by decide)
    have h9 := lin (g := g) (y := g + 3760) (off := 0) (by rw [hM]; omega); omega
  · have hM := mol_r q hq (c := 24) (by decide)
    have hb : longF (g + 3760) = true := hL.trans (by decide)
    have h9 := lin (g := g) (y := g + 3760) (off := 0) (by rw [hM]; omega); omega
  · have hM := mol_r q hq (c := 37) (by decide)
    have hb : longF (g + 3760) = false := hL.trans (by decide)
    have h9 := lin (g := g) (y := g + 3760) (off := 0) (by rw [hM]; omega); omega
  · have hM := mol_r q hq (c := 49) (by decide)
    have hb : longF (g + 3760) = false := hL.trans (by decide)
    have h9 := lin (g := g) (y := g + 3760) (off := 0) (by rw [hM]; omega); omega
  · have hM := mol_r q hq (c := 61) (by decide)
    have hb : longF (g + 3760) = true := hL.trans (by decide)
    by_cases h8 : g < 113799
    · exact ck_of (m := 7) (d := 1) (g0 := 113704) (n := 5) (by decide +kernel) (by omega) (by omega) (by omega)
    · have h9 := lin (g := g) (y := g + 3760) (off := 0) (by rw [hM]; omega); omega
  · have hM := mol_r q hq (c := 74) (by decide)
    have hb : longF (g + 3760) = false := hL.trans (by decide)
    have h9 := lin (g := g) (y := g + 3760) (off := 0) (by rw [hM]; omega); omega
  · have hM := mol_r q hq (c := 86) (by decide)
    have hb : longF (g + 3760) = true := hL.trans (by decide)
    have h9 := lin (g := g) (y := g + 3760) (off := 0) (by rw [hM]; omega); omega
  · have hM := mol_r q hq (c := 99) (by decide)
    have hb : longF (g + 3760) = false := hL.trans (by decide)
    have h9 := lin (g := g) (y := g + 3760) (off := 0) (by rw [hM]; omega); omega
  · have hM := mol_r q hq (c := 111) (by decide)
    have hb : longF (g + 3760) = false := hL.trans (by decide)
    have h9 := lin (g := g) (y := g + 3760) (off := 0) (by rw [hM]; omega); omega
  · have hM := mol_r q hq (c := 123) (by decide)
    have hb : longF (g + 3760) = true := hL.trans (by decide)
    have h9 := lin (g := g) (y := g + 3760) (off := 0) (by rw [hM]; omega); omega
  · have hM := mol_r q hq (c := 136) (by decide)
    have hb : longF (g + 3760) = false := hL.trans (by decide)
    have h9 := lin (g := g) (y := g + 3760) (off := 0) (by rw [hM]; omega); omega
  · have hM := mol_r q hq (c := 148) (by decide)
    have hb : longF (g + 3760) = false := hL.trans (by decide)
    have h9 := lin (g := g) (y := g + 3760) (off := 0) (by rw [hM]; omega); omega
  · have hM := mol_r q hq (c := 160) (by decide)
    have hb : longF (g + 3760) = true := hL.trans (by decide)
    have h9 := lin (g := g) (y := g + 3760) (off := 0) (by rw [hM]; omega); omega
  · have hM := mol_r q hq (c := 173) (by decide)
    have hb : longF (g + 3760) = false := hL.trans (by decide)
    have h9 := lin (g := g) (y := g + 3760) (off := 0) (by rw [hM]; omega); omega
  · have hM := mol_r q hq (c := 185) (by decide)
    have hb : longF (g + 3760) = false := hL.trans (by decide)
    have h9 := lin (g := g) (y := g + 3760) (off := 0) (by rw [hM]; omega); omega
  · have hM := mol_r q hq (c := 197) (by decide)
    have hb : longF (g + 3760) = true := hL.trans (by decide)
    by_cases h8 : g < 114171
    · exact ck_of (m := 7) (d := 1) (g0 := 113715) (n := 24) (by decide +kernel) (by omega) (by omega) (by omega)
    · have h9 := lin (g := g) (y := g + 3760) (off := 0) (by rw [hM]; omega); omega
  · have hM := mol_r q hq (c := 210) (by decide)
    have hb : longF (g + 3760) = false := hL.trans (by decide)
    have h9 := lin (g := g) (y := g + 3760) (off := 0) (by rw [hM]; omega); omega
  · have hM := mol_r q hq (c := 222) (by decide)
    have hb : longF (g + 3760) = true := hL.trans (by decide)
    have h9 := lin (g := g) (y := g + 3760) (off := 0) (by rw [hM]; omega); omega
theorem core_2 {g : Int} (h : 111492 < g) : janF (g + 1) ≤ tishF (g + 3760) + offF (g + 3760) 7 + 10 - 1 := by
  obtain ⟨q, r, hq, hr⟩ := split19 (g + 3760)
  have hL := long_r q hq
  have hl := lo_7 (g + 3760)
  rcases hr with rfl | rfl | rfl | rfl | rfl | rfl | rfl | rfl | rfl | rfl | rfl | rfl | rfl | rfl | rfl | rfl | rfl | rfl | rfl
  · have hM := mol_r q hq (c := 0) (by decide)
    have hb : longF (g + 3760) = false := hL.trans (by decide)
    have h9 := lin (g := g) (y := g + 3760) (off := 9) (by rw [hM]; omega); omega
  · have hM := mol_r q hq (c := 12) (by decide)
    have hb : longF (g + 3760) = false := hL.trans (by decide)
    have h9 := lin (g := g) (y := g + 3760) (off := 9) (by rw [hM]; omega); omega
  · have hM := mol_r q hq (c := 24) (by decide)
    have hb : longF (g + 3760) = true := hL.trans (by decide)
    have h9 := lin (g := g) (y := g + 3760) (off := 9) (by rw [hM]; omega); omega
  · have hM := mol_r q hq (c := 37) (by decide)
    have hb : longF (g + 3760) = false := hL.trans (by decide)
    have h9 := lin (g := g) (y := g + 3760) (off := 9) (by rw [hM]; omega); omega
  · have hM := mol_r q hq (c := 49) (by decide)
    have hb : longF (g + 3760) = false := hL.trans (by decide)
    have h9 := lin (g := g) (y := g + 3760) (off := 9) (by rw [hM]; omega); omega
  · have hM := mol_r q hq (c := 61) (by decide)
    have hb : longF (g + 3760) = true := hL.trans (by decide)
    by_cases h8 : g < 111728
    · exact ck_of (m := 7) (d := 10) (g0 := 111500) (n := 12) (by decide +kernel) (by omega) (by omega) (by omega)
    · have h9 := lin (g := g) (y := g + 3760) (off := 9) (by rw [hM]; omega); omega
  · have hM := mol_r q hq (c := 74) (by decide)
    have hb : longF (g + 3760) = false := hL.trans (by decide)
    have h9 := lin (g := g) (y := g + 3760) (off := 9) (by rw [hM]; omega); omega
  · have hM := mol_r q hq (c := 86) (by decide)
    have hb : longF (g + 3760) = true := hL.trans (by decide)
    have h9 := lin (g := g) (y := g + 3760) (off := 9) (by rw [hM]; omega); omega
  · have hM := mol_r q hq (c := 99) (by decide)
    have hb : longF (g + 3760) = false := hL.trans (by decide)
    have h9 := lin (g := g) (y := g + 3760) (off := 9) (by rw [hM]; omega); omega
  · have hM := mol_r q hq (c := 111) (by decide)
    have hb : longF (g + 3760) = false := hL.trans (by decide)
    have h9 := lin (g := g) (y := g + 3760) (off := 9) (by rw [hM]; omega); omega
  · have hM := mol_r q hq (c := 123) (by decide)
    have hb : longF (g + 3760) = true := hL.trans (by decide)
    have h9 := lin (g := g) (y := g + 3760) (off := 9) (by rw [hM]; omega); omega
  · have hM := mol_r q hq (c := 136) (by decide)
    have hb : longF (g + 3760) = false := hL.trans (by decide)
    have h9 := lin (g := g) (y := g + 3760) (off := 9) (by rw [hM]; omega); omega
  · have hM := mol_r q hq (c := 148) (by decide)
    have hb : longF (g + 3760) = false := hL.trans (by decide)
    have h9 := lin (g := g) (y := g + 3760) (off := 9) (by rw [hM]; omega); omega
  · have hM := mol_r q hq (c := 160) (by decide)
    have hb : longF (g + 3760) = true := hL.trans (by decide)
    have h9 := lin (g := g) (y := g + 3760) (off := 9) (by rw [hM]; omega); omega
  · have hM := mol_r q hq (c := 173) (by decide)
    have hb : longF (g + 3760) = false := hL.trans (by decide)
    have h9 := lin (g := g) (y := g + 3760) (off := 9) (by rw [hM]; omega); omega
  · have hM := mol_r q hq (c := 185) (by decide)
    have hb : longF (g + 3760) = false := hL.trans (by decide)
    have h9 := lin (g := g) (y := g + 3760) (off := 9) (by rw [hM]; omega); omega
  · have hM := mol_r q hq (c := 197) (by decide)
    have hb : longF (g + 3760) = true := hL.trans (by decide)
    by_cases h8 : g < 112081
    · exact ck_of (m := 7) (d := 10) (g0 := 111511) (n := 30) (by decide +kernel) (by omega) (by omega) (by omega)
    · have h9 := lin (g := g) (y := g + 3760) (off := 9) (by rw [hM]; omega); omega
  · have hM := mol_r q hq (c := 210) (by decide)
    have hb : longF (g + 3760) = false := hL.trans (by decide)
    have h9 := lin (g := g) (y := g + 3760) (off := 9) (by rw [hM]; omega); omega
  · have hM := mol_r q hq (c := 222) (by decide)
    have hb : longF (g + 3760) = true := hL.trans (by decide)
    have h9 := lin (g := g) (y := g + 3760) (off := 9) (by rw [hM]; omega); omega
theorem core_3 {g : Int} (h : 66841 < g) : janF (g + 1) ≤ tishF (g + 3760) + offF (g + 3760) 1 + 15 - 1 := by
  obtain ⟨q, r, hq, hr⟩ := split19 (g + 3760)
  have hL := long_r q hq
  have hl := lo_1 (g + 3760)
  rcases hr with rfl | rfl | rfl | rfl | rfl | rfl | rfl | rfl | rfl | rfl | rfl | rfl | rfl | rfl | rfl | rfl | rfl | rfl | rfl
  · have hM := mol_r q hq (c := 0) (by decide)
    have hb : longF (g + 3760) = false := hL.trans (by decide)
    rw [hb] at hl
    simp only [Bool.false_eq_true, if_false] at hl
    have h9 := lin (g := g) (y := g + 3760) (off := 190) (by rw [hM]; omega); omega
  · have hM := mol_r q hq (c := 12) (by decide)
    have hb : longF (g + 3760) = false := hL.trans (by decide)
    rw [hb] at hl
    simp only [Bool.false_eq_true, if_false] at hl
    have h9 := lin (g := g) (y := g + 3760) (off := 190) (by rw [hM]; omega); omega
  · have hM := mol_r q hq (c := 24) (by decide)
    have hb : longF (g + 3760) = true := hL.trans (by decide)
    rw [hb] at hl
    simp only [if_true] at hl
    have h9 := lin (g := g) (y := g + 3760) (off := 220) (by rw [hM]; omega); omega
  · have hM := mol_r q hq (c := 37) (by decide)
    have hb : longF (g + 3760) = false := hL.trans (by decide)
    rw [hb] at hl
    simp only [Bool.false_eq_true, if_false] at hl
    have h9 := lin (g := g) (y := g + 3760) (off := 190) (by rw [hM]; omega); omega
  · have hM := mol_r q hq (c := 49) (by decide)
    have hb : longF (g + 3760) = false := hL.trans (by decide)
    rw [hb] at hl
    simp only [Bool.false_eq_true, if_false] at hl
    by_cases h8 : g < 67324
    · exact ck_of (m := 1) (d := 15) (g0 := 66849) (n := 25) (by decide +kernel) (by omega) (by omega) (by omega)
    · have h9 := lin (g := g) (y := g + 3760) (off := 190) (by rw [hM]; omega); omega
  · have hM := mol_r q hq (c := 61) (by decide)
    have hb : longF (g + 3760) = true := hL.trans (by decide)
    rw [hb] at hl
    simp only [if_true] at hl
    have h9 := lin (g := g) (y := g + 3760) (off := 220) (by rw [hM]; omega); omega
  · have hM := mol_r q hq (c := 74) (by decide)
    have hb : longF (g + 3760) = false := hL.trans (by decide)
    rw [hb] at hl
    simp only [Bool.false_eq_true, if_false] at hl
    have h9 := lin (g := g) (y := g + 3760) (off := 190) (by rw [hM]; omega); omega
  · have hM := mol_r q hq (c := 86) (by decide)
    have hb : longF (g + 3760) = true := hL.trans (by decide)
    rw [hb] at hl
    simp only [if_true] at hl
    have h9 := lin (g := g) (y := g + 3760) (off := 220) (by rw [hM]; omega); omega
  · have hM := mol_r q hq (c := 99) (by decide)
    have hb : longF (g + 3760) = false := hL.trans (by decide)
    rw [hb] at hl
    simp only [Bool.false_eq_true, if_false] at hl
    have h9 := lin (g := g) (y := g + 3760) (off := 190) (by rw [hM]; omega); omega
  · have hM := mol_r q hq (c := 111) (by decide)
    have hb : longF (g + 3760) = false := hL.trans (by decide)
    rw [hb] at hl
    simp only [Bool.false_eq_true, if_false] at hl
    have h9 := lin (g := g) (y := g + 3760) (off := 190) (by rw [hM]; omega); omega
  · have hM := mol_r q hq (c := 123) (by decide)
    have hb : longF (g + 3760) = true := hL.trans (by decide)
    rw [hb] at hl
    simp only [if_true] at hl
    have h9 := lin (g := g) (y := g + 3760) (off := 220) (by rw [hM]; omega); omega
  · have hM := mol_r q hq (c := 136) (by decide)
    have hb : longF (g + 3760) = false := hL.trans (by decide)
    rw [hb] at hl
    simp only [Bool.false_eq_true, if_false] at hl
    have h9 := lin (g := g) (y := g + 3760) (off := 190) (by rw [hM]; omega); omega
  · have hM := mol_r q hq (c := 148) (by decide)
    have hb : longF (g + 3760) = false := hL.trans (by decide)
    rw [hb] at hl
    simp only [Bool.false_eq_true, if_false] at hl
    by_cases h8 : g < 66971
    · exact ck_of (m := 1) (d := 15) (g0 := 66857) (n := 6) (by decide +kernel) (by omega) (by omega) (by omega)
    · have h9 := lin (g := g) (y := g + 3760) (off := 190) (by rw [hM]; omega); omega
  · have hM := mol_r q hq (c := 160) (by decide)
    have hb : longF (g + 3760) = true := hL.trans (by decide)
    rw [hb] at hl
    simp only [if_true] at hl
    have h9 := lin (g := g) (y := g + 3760) (off := 220) (by rw [hM]; omega); omega
  · have hM := mol_r q hq (c := 173) (by decide)
    have hb : longF (g + 3760) = false := hL.trans (by decide)
    rw [hb] at hl
    simp only [Bool.false_eq_true, if_false] at hl
    have h9 := lin (g := g) (y := g + 3760) (off := 190) (by rw [hM]; omega); omega
  · have hM := mol_r q hq (c := 185) (by decide)
    have hb : longF (g + 3760) = false := hL.trans (by decide)
    rw [hb] at hl
    simp only [Bool.false_eq_true, if_false] at hl
    by_cases h8 : g < 67677
    · exact ck_of (m := 1) (d := 15) (g0 := 66860) (n := 43) (by decide +kernel) (by omega) (by omega) (by omega)
    · have h9 := lin (g := g) (y := g + 3760) (off := 190) (by rw [hM]; omega); omega
  · have hM := mol_r q hq (c := 197) (by decide)
    have hb : longF (g + 3760) = true := hL.trans (by decide)
    rw [hb] at hl
    simp only [if_true] at hl
    have h9 := lin (g := g) (y := g + 3760) (off := 220) (by rw [hM]; omega); omega
  · have hM := mol_r q hq (c := 210) (by decide)
    have hb : longF (g + 3760) = false := hL.trans (by decide)
    rw [hb] at hl
    simp only [Bool.false_eq_true, if_false] at hl
    have h9 := lin (g := g) (y := g + 3760) (off := 190) (by rw [hM]; omega); omega
  · have hM := mol_r q hq (c := 222) (by decide)
    have hb : longF (g + 3760) = true := hL.trans (by decide)
    rw [hb] at hl
    simp only [if_true] at hl
    have h9 := lin (g := g) (y := g + 3760) (off := 220) (by rw [hM]; omega); omega
theorem core_4 {g : Int} (h : 55270 < g) : janF (g + 1) ≤ tishF (g + 3760) + offF (g + 3760) 3 + 6 - 1 := by
  obtain ⟨q, r, hq, hr⟩ := split19 (g + 3760)
  have hL := long_r q hq
  have hl := lo_3 (g + 3760)
  rcases hr with rfl | rfl | rfl | rfl | rfl | rfl | rfl | rfl | rfl | rfl | rfl | rfl | rfl | rfl | rfl | rfl | rfl | rfl | rfl
  · have hM := mol_r q hq (c := 0) (by decide)
    have hb : longF (g + 3760) = false := hL.trans (by decide)
    rw [hb] at hl
    simp only [Bool.false_eq_true, if_false] at hl
    have h9 := lin (g := g) (y := g + 3760) (off := 240) (by rw [hM]; omega); omega
  · have hM := mol_r q hq (c := 12) (by decide)
    have hb : longF (g + 3760) = false := hL.trans (by decide)
    rw [hb] at hl
    simp only [Bool.false_eq_true, if_false] at hl
    have h9 := lin (g := g) (y := g + 3760) (off := 240) (by rw [hM]; omega); omega
  · have hM := mol_r q hq (c := 24) (by decide)
    have hb : longF (g + 3760) = true := hL.trans (by decide)
    rw [hb] at hl
    simp only [if_true] at hl
    have h9 := lin (g := g) (y := g + 3760) (off := 270) (by rw [hM]; omega); omega
  · have hM := mol_r q hq (c := 37) (by decide)
    have hb : longF (g + 3760) = false := hL.trans (by decide)
    rw [hb] at hl
    simp only [Bool.false_eq_true, if_false] at hl
    have h9 := lin (g := g) (y := g + 3760) (off := 240) (by rw [hM]; omega); omega
  · have hM := mol_r q hq (c := 49) (by decide)
    have hb : longF (g + 3760) = false := hL.trans (by decide)
    rw [hb] at hl
    simp only [Bool.false_eq_true, if_false] at hl
    by_cases h8 : g < 55753
    · exact ck_of (m := 3) (d := 6) (g0 := 55278) (n := 25) (by decide +kernel) (by omega) (by omega) (by omega)
    · have h9 := lin (g := g) (y := g + 3760) (off := 240) (by rw [hM]; omega); omega
  · have hM := mol_r q hq (c := 61) (by decide)
    have hb : longF (g + 3760) = true := hL.trans (by decide)
    rw [hb] at hl
    simp only [if_true] at hl
    have h9 := lin (g := g) (y := g + 3760) (off := 270) (by rw [hM]; omega); omega
  · have hM := mol_r q hq (c := 74) (by decide)
    have hb : longF (g + 3760) = false := hL.trans (by decide)
    rw [hb] at hl
    simp only [Bool.false_eq_true, if_false] at hl
    have h9 := lin (g := g) (y := g + 3760) (off := 240) (by rw [hM]; omega); omega
  · have hM := mol_r q hq (c := 86) (by decide)
    have hb : longF (g + 3760) = true := hL.trans (by decide)
    rw [hb] at hl
    simp only [if_true] at hl
    have h9 := lin (g := g) (y := g + 3760) (off := 270) (by rw [hM]; omega); omega
  · have hM := mol_r q hq (c := 99) (by decide)
    have hb : longF (g + 3760) = false := hL.trans (by decide)
    rw [hb] at hl
    simp only [Bool.false_eq_true, if_false] at hl
    have h9 := lin (g := g) (y := g + 3760) (off := 240) (by rw [hM]; omega); omega
  · have hM := mol_r q hq (c := 111) (by decide)
    have hb : longF (g + 3760) = false := hL.trans (by decide)
    rw [hb] at hl
    simp only [Bool.false_eq_true, if_false] at hl
    have h9 := lin (g := g) (y := g + 3760) (off := 240) (by rw [hM]; omega); omega
  · have hM := mol_r q hq (c := 123) (by decide)
    have hb : longF (g + 3760) = true := hL.trans (by decide)
    rw [hb] at hl
    simp only [if_true] at hl
    have h9 := lin (g := g) (y := g + 3760) (off := 270) (by rw [hM]; omega); omega
  · have hM := mol_r q hq (c := 136) (by decide)
    have hb : longF (g + 3760) = false := hL.trans (by decide)
    rw [hb] at hl
    simp only [Bool.false_eq_true, if_false] at hl
    have h9 := lin (g := g) (y := g + 3760) (off := 240) (by rw [hM]; omega); omega
  · have hM := mol_r q hq (c := 148) (by decide)
    have hb : longF (g + 3760) = false := hL.trans (by decide)
    rw [hb] at hl
    simp only [Bool.false_eq_true, if_false] at hl
    by_cases h8 : g < 55400
    · exact ck_of (m := 3) (d := 6) (g0 := 55286) (n := 6) (by decide +kernel) (by omega) (by omega) (by omega)
    · have h9 := lin (g := g) (y := g + 3760) (off := 240) (by rw [hM]; omega); omega
  · have hM := mol_r q hq (c := 160) (by decide)
    have hb : longF (g + 3760) = true := hL.trans (by decide)
    rw [hb] at hl
    simp only [if_true] at hl
    have h9 := lin (g := g) (y := g + 3760) (off := 270) (by rw [hM]; omega); omega
  · have hM := mol_r q hq (c := 173) (by decide)
    have hb : longF (g + 3760) = false := hL.trans (by decide)
    rw [hb] at hl
    simp only [Bool.false_eq_true, if_false] at hl
    have h9 := lin (g := g) (y := g + 3760) (off := 240) (by rw [hM]; omega); omega
  · have hM := mol_r q hq (c := 185) (by decide)
    have hb : longF (g + 3760) = false := hL.trans (by decide)
    rw [hb] at hl
    simp only [Bool.false_eq_true, if_false] at hl
    by_cases h8 : g < 56125
    · exact ck_of (m := 3) (d := 6) (g0 := 55289) (n := 44) (by decide +kernel) (by omega) (by omega) (by omega)
    · have h9 := lin (g := g) (y := g + 3760) (off := 240) (by rw [hM]; omega); omega
  · have hM := mol_r q hq (c := 197) (by decide)
    have hb : longF (g + 3760) = true := hL.trans (by decide)
    rw [hb] at hl
    simp only [if_true] at hl
    have h9 := lin (g := g) (y := g + 3760) (off := 270) (by rw [hM]; omega); omega
  · have hM := mol_r q hq (c := 210) (by decide)
    have hb : longF (g + 3760) = false := hL.trans (by decide)
    rw [hb] at hl
    simp only [Bool.false_eq_true, if_false] at hl
    have h9 := lin (g := g) (y := g + 3760) (off := 240) (by rw [hM]; omega); omega
  · have hM := mol_r q hq (c := 222) (by decide)
    have hb : longF (g + 3760) = true := hL.trans (by decide)
    rw [hb] at hl
    simp only [if_true] at hl
    have h9 := lin (g := g) (y := g + 3760) (off := 270) (by rw [hM]; omega); omega
theorem core_5 {g : Int} (h : 110257 < g) : janF (g + 1) ≤ tishF (g + 3760) + offF (g + 3760) 7 + 15 - 1 := by
  obtain ⟨q, r, hq, hr⟩ := split19 (g + 3760)
  have hL := long_r q hq
  have hl := lo_7 (g + 3760)
  rcases hr with rfl | rfl | rfl | rfl | rfl | rfl | rfl | rfl | rfl | rfl | rfl | rfl | rfl | rfl | rfl | rfl | rfl | rfl | rfl
  · have hM := mol_r q hq (c := 0) (by decide)
    have hb : longF (g + 3760) = false := hL.trans (by decide)
    have h9 := lin (g := g) (y := g + 3760) (off := 14) (by rw [hM]; omega); omega
  · have hM := mol_r q hq (c := 12) (by decide)
    have hb : longF (g + 3760) = false := hL.trans (by decide)
    have h9 := lin (g := g) (y := g + 3760) (off := 14) (by rw [hM]; omega); omega
  · have hM := mol_r q hq (c := 24) (by decide)
    have hb : longF (g + 3760) = true := hL.trans (by decide)
    have h9 := lin (g := g) (y := g + 3760) (off := 14) (by rw [hM]; omega); omega
  · have hM := mol_r q hq (c := 37) (by decide)
    have hb : longF (g + 3760) = false := hL.trans (by decide)
    have h9 := lin (g := g) (y := g + 3760) (off := 14) (by rw [hM]; omega); omega
  · have hM := mol_r q hq (c := 49) (by decide)
    have hb : longF (g + 3760) = false := hL.trans (by decide)
    have h9 := lin (g := g) (y := g + 3760) (off := 14) (by rw [hM]; omega); omega
  · have hM := mol_r q hq (c := 61) (by decide)
    have hb : longF (g + 3760) = true := hL.trans (by decide)
    by_cases h8 : g < 110569
    · exact ck_of (m := 7) (d := 15) (g0 := 110265) (n := 16) (by decide +kernel) (by omega) (by omega) (by omega)
    · have h9 := lin (g := g) (y := g + 3760) (off := 14) (by rw [hM]; omega); omega
  · have hM := mol_r q hq (c := 74) (by decide)
    have hb : longF (g + 3760) = false := hL.trans (by decide)
    have h9 := lin (g := g) (y := g + 3760) (off := 14) (by rw [hM]; omega); omega
  · have hM := mol_r q hq (c := 86) (by decide)
    have hb : longF (g + 3760) = true := hL.trans (by decide)
    have h9 := lin (g := g) (y := g + 3760) (off := 14) (by rw [hM]; omega); omega
  · have hM := mol_r q hq (c := 99) (by decide)
    have hb : longF (g + 3760) = false := hL.trans (by decide)
    have h9 := lin (g := g) (y := g + 3760) (off := 14) (by rw [hM]; omega); omega
  · have hM := mol_r q hq (c := 111) (by decide)
    have hb : longF (g + 3760) = false := hL.trans (by decide)
    have h9 := lin (g := g) (y := g + 3760) (off := 14) (by rw [hM]; omega); omega
  · have hM := mol_r q hq (c := 123) (by decide)
    have hb : longF (g + 3760) = true := hL.trans (by decide)
    have h9 := lin (g := g) (y := g + 3760) (off := 14) (by rw [hM]; omega); omega
  · have hM := mol_r q hq (c := 136) (by decide)
    have hb : longF (g + 3760) = false := hL.trans (by decide)
    have h9 := lin (g := g) (y := g + 3760) (off := 14) (by rw [hM]; omega); omega
  · have hM := mol_r q hq (c := 148) (by decide)
    have hb : longF (g + 3760) = false := hL.trans (by decide)
    have h9 := lin (g := g) (y := g + 3760) (off := 14) (by rw [hM]; omega); omega
  · have hM := mol_r q hq (c := 160) (by decide)
    have hb : longF (g + 3760) = true := hL.trans (by decide)
    have h9 := lin (g := g) (y := g + 3760) (off := 14) (by rw [hM]; omega); omega
  · have hM := mol_r q hq (c := 173) (by decide)
    have hb : longF (g + 3760) = false := hL.trans (by decide)
    have h9 := lin (g := g) (y := g + 3760) (off := 14) (by rw [hM]; omega); omega
  · have hM := mol_r q hq (c := 185) (by decide)
    have hb : longF (g + 3760) = false := hL.trans (by decide)
    have h9 := lin (g := g) (y := g + 3760) (off := 14) (by rw [hM]; omega); omega
  · have hM := mol_r q hq (c := 197) (by decide)
    have hb : longF (g + 3760) = true := hL.trans (by decide)
    by_cases h8 : g < 110922
    · exact ck_of (m := 7) (d := 15) (g0 := 110276) (n := 34) (by decide +kernel) (by omega) (by omega) (by omega)
    · have h9 := lin (g := g) (y := g + 3760) (off := 14) (by rw [hM]; omega); omega
  · have hM := mol_r q hq (c := 210) (by decide)
    have hb : longF (g + 3760) = false := hL.trans (by decide)
    have h9 := lin (g := g) (y := g + 3760) (off := 14) (by rw [hM]; omega); omega
  · have hM := mol_r q hq (c := 222) (by decide)
    have hb : longF (g + 3760) = true := hL.trans (by decide)
    have h9 := lin (g := g) (y := g + 3760) (off := 14) (by rw [hM]; omega); omega
theorem core_6 {g : Int} (h : 108661 < g) : janF (g + 1) ≤ tishF (g + 3760) + offF (g + 3760) 7 + 22 - 1 := by
  obtain ⟨q, r, hq, hr⟩ := split19 (g + 3760)
  have hL := long_r q hq
  have hl := lo_7 (g + 3760)
  rcases hr with rfl | rfl | rfl | rfl | rfl | rfl | rfl | rfl | rfl | rfl | rfl | rfl | rfl | rfl | rfl | rfl | rfl | rfl | rfl
  · have hM := mol_r q hq (c := 0) (by decide)
    have hb : longF (g + 3760) = false := hL.trans (by decide)
    have h9 := lin (g := g) (y := g + 3760) (off := 21) (by rw [hM]; omega); omega
  · have hM := mol_r q hq (c := 12) (by decide)
    have hb : longF (g + 3760) = false := hL.trans (by decide)
    have h9 := lin (g := g) (y := g + 3760) (off := 21) (by rw [hM]; omega); omega
  · have hM := mol_r q hq (c := 24) (by decide)
    have hb : longF (g + 3760) = true := hL.trans (by decide)
    have h9 := lin (g := g) (y := g + 3760) (off := 21) (by rw [hM]; omega); omega
  · have hM := mol_r q hq (c := 37) (by decide)
    have hb : longF (g + 3760) = false := hL.trans (by decide)
    have h9 := lin (g := g) (y := g + 3760) (off := 21) (by rw [hM]; omega); omega
  · have hM := mol_r q hq (c := 49) (by decide)
    have hb : longF (g + 3760) = false := hL.trans (by decide)
    have h9 := lin (g := g) (y := g + 3760) (off := 21) (by rw [hM]; omega); omega
  · have hM := mol_r q hq (c := 61) (by decide)
    have hb : longF (g + 3760) = true := hL.trans (by decide)
    by_cases h8 : g < 108935
    · exact ck_of (m := 7) (d := 22) (g0 := 108669) (n := 14) (by decide +kernel) (by omega) (by omega) (by omega)
    · have h9 := lin (g := g) (y := g + 3760) (off := 21) (by rw [hM]; omega); omega
  · have hM := mol_r q hq (c := 74) (by decide)
    have hb : longF (g + 3760) = false := hL.trans (by decide)
    have h9 := lin (g := g) (y := g + 3760) (off := 21) (by rw [hM]; omega); omega
  · have hM := mol_r q hq (c := 86) (by decide)
    have hb : longF (g + 3760) = true := hL.trans (by decide)
    have h9 := lin (g := g) (y := g + 3760) (off := 21) (by rw [hM]; omega); omega
  · have hM := mol_r q hq (c := 99) (by decide)
    have hb : longF (g + 3760) = false := hL.trans (by decide)
    have h9 := lin (g := g) (y := g + 3760) (off := 21) (by rw [hM]; omega); omega
  · have hM := mol_r q hq (c := 111) (by decide)
    have hb : longF (g + 3760) = false := hL.trans (by decide)
    have h9 := lin (g := g) (y := g + 3760) (off := 21) (by rw [hM]; omega); omega
  · have hM := mol_r q hq (c := 123) (by decide)
    have hb : longF (g + 3760) = true := hL.trans (by decide)
    have h9 := lin (g := g) (y := g + 3760) (off := 21) (by rw [hM]; omega); omega
  · have hM := mol_r q hq (c := 136) (by decide)
    have hb : longF (g + 3760) = false := hL.trans (by decide)
    have h9 := lin (g := g) (y := g + 3760) (off := 21) (by rw [hM]; omega); omega
  · have hM := mol_r q hq (c := 148) (by decide)
    have hb : longF (g + 3760) = false := hL.trans (by decide)
    have h9 := lin (g := g) (y := g + 3760) (off := 21) (by rw [hM]; omega); omega
  · have hM := mol_r q hq (c := 160) (by decide)
    have hb : longF (g + 3760) = true := hL.trans (by decide)
    have h9 := lin (g := g) (y := g + 3760) (off := 21) (by rw [hM]; omega); omega
  · have hM := mol_r q hq (c := 173) (by decide)
    have hb : longF (g + 3760) = false := hL.trans (by decide)
    have h9 := lin (g := g) (y := g + 3760) (off := 21) (by rw [hM]; omega); omega
  · have hM := mol_r q hq (c := 185) (by decide)
    have hb : longF (g + 3760) = false := hL.trans (by decide)
    have h9 := lin (g := g) (y := g + 3760) (off := 21) (by rw [hM]; omega); omega
  · have hM := mol_r q hq (c := 197) (by decide)
    have hb : longF (g + 3760) = true := hL.trans (by decide)
    by_cases h8 : g < 109307
    · exact ck_of (m := 7) (d := 22) (g0 := 108680) (n := 33) (by decide +kernel) (by omega) (by omega) (by omega)
    · have h9 := lin (g := g) (y := g + 3760) (off := 21) (by rw [hM]; omega); omega
  · have hM := mol_r q hq (c := 210) (by decide)
    have hb : longF (g + 3760) = false := hL.trans (by decide)
    have h9 := lin (g := g) (y := g + 3760) (off := 21) (by rw [hM]; omega); omega
  · have hM := mol_r q hq (c := 222) (by decide)
    have hb : longF (g + 3760) = true := hL.trans (by decide)
    have h9 := lin (g := g) (y := g + 3760) (off := 21) (by rw [hM]; omega); omega
theorem core_7 {g : Int} (h : 59260 < g) : janF (g + 1) ≤ tishF (g + 3760) + offF (g + 3760) 2 + 18 - 1 := by
  obtain ⟨q, r, hq, hr⟩ := split19 (g + 3760)
  have hL := long_r q hq
  have hl := lo_2 (g + 3760)
  rcases hr with rfl | rfl | rfl | rfl | rfl | rfl | rfl | rfl | rfl | rfl | rfl | rfl | rfl | rfl | rfl | rfl | rfl | rfl | rfl
  · have hM := mol_r q hq (c := 0) (by decide)
    have hb : longF (g + 3760) = false := hL.trans (by decide)
    rw [hb] at hl
    simp only [Bool.false_eq_true, if_false] at hl
    have h9 := lin (g := g) (y := g + 3760) (off := 223) (by rw [hM]; omega); omega
  · have hM := mol_r q hq (c := 12) (by decide)
    have hb : longF (g + 3760) = false := hL.trans (by decide)
    rw [hb] at hl
    simp only [Bool.false_eq_true, if_false] at hl
    have h9 := lin (g := g) (y := g + 3760) (off := 223) (by rw [hM]; omega); omega
  · have hM := mol_r q hq (c := 24) (by decide)
    have hb : longF (g + 3760) = true := hL.trans (by decide)
    rw [hb] at hl
    simp only [if_true] at hl
    have h9 := lin (g := g) (y := g + 3760) (off := 253) (by rw [hM]; omega); omega
  · have hM := mol_r q hq (c := 37) (by decide)
    have hb : longF (g + 3760) = false := hL.trans (by decide)
    rw [hb] at hl
    simp only [Bool.false_eq_true, if_false] at hl
    have h9 := lin (g := g) (y := g + 3760) (off := 223) (by rw [hM]; omega); omega
  · have hM := mol_r q hq (c := 49) (by decide)
    have hb : longF (g + 3760) = false := hL.trans (by decide)
    rw [hb] at hl
    simp only [Bool.false_eq_true, if_false] at hl
    by_cases h8 : g < 59686
    · exact ck_of (m := 2) (d := 18) (g0 := 59268) (n := 22) (by decide +kernel) (by omega) (by omega) (by omega)
    · have h9 := lin (g := g) (y := g + 3760) (off := 223) (by rw [hM]; omega); omega
  · have hM := mol_r q hq (c := 61) (by decide)
    have hb : longF (g + 3760) = true := hL.trans (by decide)
    rw [hb] at hl
    simp only [if_true] at hl
    have h9 := lin (g := g) (y := g + 3760) (off := 253) (by rw [hM]; omega); omega
  · have hM := mol_r q hq (c := 74) (by decide)
    have hb : longF (g + 3760) = false := hL.trans (by decide)
    rw [hb] at hl
    simp only [Bool.false_eq_true, if_false] at hl
    have h9 := lin (g := g) (y := g + 3760) (off := 223) (by rw [hM]; omega); omega
  · have hM := mol_r q hq (c := 86) (by decide)
    have hb : longF (g + 3760) = true := hL.trans (by decide)
    rw [hb] at hl
    simp only [if_true] at hl
    have h9 := lin (g := g) (y := g + 3760) (off := 253) (by rw [hM]; omega); omega
  · have hM := mol_r q hq (c := 99) (by decide)
    have hb : longF (g + 3760) = false := hL.trans (by decide)
    rw [hb] at hl
    simp only [Bool.false_eq_true, if_false] at hl
    have h9 := lin (g := g) (y := g + 3760) (off := 223) (by rw [hM]; omega); omega
  · have hM := mol_r q hq (c := 111) (by decide)
    have hb : longF (g + 3760) = false := hL.trans (by decide)
    rw [hb] at hl
    simp only [Bool.false_eq_true, if_false] at hl
    have h9 := lin (g := g) (y := g + 3760) (off := 223) (by rw [hM]; omega); omega
  · have hM := mol_r q hq (c := 123) (by decide)
    have hb : longF (g + 3760) = true := hL.trans (by decide)
    rw [hb] at hl
    simp only [if_true] at hl
    have h9 := lin (g := g) (y := g + 3760) (off := 253) (by rw [hM]; omega); omega
  · have hM := mol_r q hq (c := 136) (by decide)
    have hb : longF (g + 3760) = false := hL.trans (by decide)
    rw [hb] at hl
    simp only [Bool.false_eq_true, if_false] at hl
    have h9 := lin (g := g) (y := g + 3760) (off := 223) (by rw [hM]; omega); omega
  · have hM := mol_r q hq (c := 148) (by decide)
    have hb : longF (g + 3760) = false := hL.trans (by decide)
    rw [hb] at hl
    simp only [Bool.false_eq_true, if_false] at hl
    by_cases h8 : g < 59333
    · exact ck_of (m := 2) (d := 18) (g0 := 59276) (n := 3) (by decide +kernel) (by omega) (by omega) (by omega)
    · have h9 := lin (g := g) (y := g + 3760) (off := 223) (by rw [hM]; omega); omega
  · have hM := mol_r q hq (c := 160) (by decide)
    have hb : longF (g + 3760) = true := hL.trans (by decide)
    rw [hb] at hl
    simp only [if_true] at hl
    have h9 := lin (g := g) (y := g + 3760) (off := 253) (by rw [hM]; omega); omega
  · have hM := mol_r q hq (c := 173) (by decide)
    have hb : longF (g + 3760) = false := hL.trans (by decide)
    rw [hb] at hl
    simp only [Bool.false_eq_true, if_false] at hl
    have h9 := lin (g := g) (y := g + 3760) (off := 223) (by rw [hM]; omega); omega
  · have hM := mol_r q hq (c := 185) (by decide)
    have hb : longF (g + 3760) = false := hL.trans (by decide)
    rw [hb] at hl
    simp only [Bool.false_eq_true, if_false] at hl
    by_cases h8 : g < 60058
    · exact ck_of (m := 2) (d := 18) (g0 := 59279) (n := 41) (by decide +kernel) (by omega) (by omega) (by omega)
    · have h9 := lin (g := g) (y := g + 3760) (off := 223) (by rw [hM]; omega); omega
  · have hM := mol_r q hq (c := 197) (by decide)
    have hb : longF (g + 3760) = true := hL.trans (by decide)
    rw [hb] at hl
    simp only [if_true] at hl
    have h9 := lin (g := g) (y := g + 3760) (off := 253) (by rw [hM]; omega); omega
  · have hM := mol_r q hq (c := 210) (by decide)
    have hb : longF (g + 3760) = false := hL.trans (by decide)
    rw [hb] at hl
    simp only [Bool.false_eq_true, if_false] at hl
    have h9 := lin (g := g) (y := g + 3760) (off := 223) (by rw [hM]; omega); omega
  · have hM := mol_r q hq (c := 222) (by decide)
    have hb : longF (g + 3760) = true := hL.trans (by decide)
    rw [hb] at hl
    simp only [if_true] at hl
    have h9 := lin (g := g) (y := g + 3760) (off := 253) (by rw [hM]; omega); omega
theorem core_8 {g : Int} (h : 83068 < g) : janF (g + 1) ≤ tishF (g + 3760) + offF (g + 3760) 11 + 15 - 1 := by
  obtain ⟨q, r, hq, hr⟩ := split19 (g + 3760)
  have hL := long_r q hq
  have hl := lo_11 (g + 3760)
  rcases hr with rfl | rfl | rfl | rfl | rfl | rfl | rfl | rfl | rfl | rfl | rfl | rfl | rfl | rfl | rfl | rfl | rfl | rfl | rfl
  · have hM := mol_r q hq (c := 0) (by decide)
    have hb : longF (g + 3760) = false := hL.trans (by decide)
    have h9 := lin (g := g) (y := g + 3760) (off := 131) (by rw [hM]; omega); omega
  · have hM := mol_r q hq (c := 12) (by decide)
    have hb : longF (g + 3760) = false := hL.trans (by decide)
    have h9 := lin (g := g) (y := g + 3760) (off := 131) (by rw [hM]; omega); omega
  · have hM := mol_r q hq (c := 24) (by decide)
    have hb : longF (g + 3760) = true := hL.trans (by decide)
    have h9 := lin (g := g) (y := g + 3760) (off := 131) (by rw [hM]; omega); omega
  · have hM := mol_r q hq (c := 37) (by decide)
    have hb : longF (g + 3760) = false := hL.trans (by decide)
    have h9 := lin (g := g) (y := g + 3760) (off := 131) (by rw [hM]; omega); omega
  · have hM := mol_r q hq (c := 49) (by decide)
    have hb : longF (g + 3760) = false := hL.trans (by decide)
    have h9 := lin (g := g) (y := g + 3760) (off := 131) (by rw [hM]; omega); omega
  · have hM := mol_r q hq (c := 61) (by decide)
    have hb : longF (g + 3760) = true := hL.trans (by decide)
    by_cases h8 : g < 83494
    · exact ck_of (m := 11) (d := 15) (g0 := 83076) (n := 22) (by decide +kernel) (by omega) (by omega) (by omega)
    · have h9 := lin (g := g) (y := g + 3760) (off := 131) (by rw [hM]; omega); omega
  · have hM := mol_r q hq (c := 74) (by decide)
    have hb : longF (g + 3760) = false := hL.trans (by decide)
    have h9 := lin (g := g) (y := g + 3760) (off := 131) (by rw [hM]; omega); omega
  · have hM := mol_r q hq (c := 86) (by decide)
    have hb : longF (g + 3760) = true := hL.trans (by decide)
    have h9 := lin (g := g) (y := g + 3760) (off := 131) (by rw [hM]; omega); omega
  · have hM := mol_r q hq (c := 99) (by decide)
    have hb : longF (g + 3760) = false := hL.trans (by decide)
    have h9 := lin (g := g) (y := g + 3760) (off := 131) (by rw [hM]; omega); omega
  · have hM := mol_r q hq (c := 111) (by decide)
    have hb : longF (g + 3760) = false := hL.trans (by decide)
    have h9 := lin (g := g) (y := g + 3760) (off := 131) (by rw [hM]; omega); omega
  · have hM := mol_r q hq (c := 123) (by decide)
    have hb : longF (g + 3760) = true := hL.trans (by decide)
    have h9 := lin (g := g) (y := g + 3760) (off := 131) (by rw [hM]; omega); omega
  · have hM := mol_r q hq (c := 136) (by decide)
    have hb : longF (g + 3760) = false := hL.trans (by decide)
    have h9 := lin (g := g) (y := g + 3760) (off := 131) (by rw [hM]; omega); omega
  · have hM := mol_r q hq (c := 148) (by decide)
    have hb : longF (g + 3760) = false := hL.trans (by decide)
    have h9 := lin (g := g) (y := g + 3760) (off := 131) (by rw [hM]; omega); omega
  · have hM := mol_r q hq (c := 160) (by decide)
    have hb : longF (g + 3760) = true := hL.trans (by decide)
    by_cases h8 : g < 83141
    · exact ck_of (m := 11) (d := 15) (g0 := 83084) (n := 3) (by decide +kernel) (by omega) (by omega) (by omega)
    · have h9 := lin (g := g) (y := g + 3760) (off := 131) (by rw [hM]; omega); omega
  · have hM := mol_r q hq (c := 173) (by decide)
    have hb : longF (g + 3760) = false := hL.trans (by decide)
    have h9 := lin (g := g) (y := g + 3760) (off := 131) (by rw [hM]; omega); omega
  · have hM := mol_r q hq (c := 185) (by decide)
    have hb : longF (g + 3760) = false := hL.trans (by decide)
    have h9 := lin (g := g) (y := g + 3760) (off := 131) (by rw [hM]; omega); omega
  · have hM := mol_r q hq (c := 197) (by decide)
    have hb : longF (g + 3760) = true := hL.trans (by decide)
    by_cases h8 : g < 83847
    · exact ck_of (m := 11) (d := 15) (g0 := 83087) (n := 40) (by decide +kernel) (by omega) (by omega) (by omega)
    · have h9 := lin (g := g) (y := g + 3760) (off := 131) (by rw [hM]; omega); omega
  · have hM := mol_r q hq (c := 210) (by decide)
    have hb : longF (g + 3760) = false := hL.trans (by decide)
    have h9 := lin (g := g) (y := g + 3760) (off := 131) (by rw [hM]; omega); omega
  · have hM := mol_r q hq (c := 222) (by decide)
    have hb : longF (g + 3760) = true := hL.trans (by decide)
    have h9 := lin (g := g) (y := g + 3760) (off := 131) (by rw [hM]; omega); omega
theorem core_9 {g : Int} (h : 40944 < g) : janF (g + 1) ≤ tishF (g + 3760) + offF (g + 3760) 5 + 9 - 1 := by
  obtain ⟨q, r, hq, hr⟩ := split19 (g + 3760)
  have hL := long_r q hq
  have hl := lo_5 (g + 3760)
  rcases hr with rfl | rfl | rfl | rfl | rfl | rfl | rfl | rfl | rfl | rfl | rfl | rfl | rfl | rfl | rfl | rfl | rfl | rfl | rfl
  · have hM := mol_r q hq (c := 0) (by decide)
    have hb : longF (g + 3760) = false := hL.trans (by decide)
    rw [hb] at hl
    simp only [Bool.false_eq_true, if_false] at hl
    have h9 := lin (g := g) (y := g + 3760) (off := 302) (by rw [hM]; omega); omega
  · have hM := mol_r q hq (c := 12) (by decide)
    have hb : longF (g + 3760) = false := hL.trans (by decide)
    rw [hb] at hl
    simp only [Bool.false_eq_true, if_false] at hl
    have h9 := lin (g := g) (y := g + 3760) (off := 302) (by rw [hM]; omega); omega
  · have hM := mol_r q hq (c := 24) (by decide)
    have hb : longF (g + 3760) = true := hL.trans (by decide)
    rw [hb] at hl
    simp only [if_true] at hl
    have h9 := lin (g := g) (y := g + 3760) (off := 332) (by rw [hM]; omega); omega
  · have hM := mol_r q hq (c := 37) (by decide)
    have hb : longF (g + 3760) = false := hL.trans (by decide)
    rw [hb] at hl
    simp only [Bool.false_eq_true, if_false] at hl
    have h9 := lin (g := g) (y := g + 3760) (off := 302) (by rw [hM]; omega); omega
  · have hM := mol_r q hq (c := 49) (by decide)
    have hb : longF (g + 3760) = false := hL.trans (by decide)
    rw [hb] at hl
    simp only [Bool.false_eq_true, if_false] at hl
    by_cases h8 : g < 41408
    · exact ck_of (m := 5) (d := 9) (g0 := 40952) (n := 24) (by decide +kernel) (by omega) (by omega) (by omega)
    · have h9 := lin (g := g) (y := g + 3760) (off := 302) (by rw [hM]; omega); omega
  · have hM := mol_r q hq (c := 61) (by decide)
    have hb : longF (g + 3760) = true := hL.trans (by decide)
    rw [hb] at hl
    simp only [if_true] at hl
    have h9 := lin (g := g) (y := g + 3760) (off := 332) (by rw [hM]; omega); omega
  · have hM := mol_r q hq (c := 74) (by decide)
    have hb : longF (g + 3760) = false := hL.trans (by decide)
    rw [hb] at hl
    simp only [Bool.false_eq_true, if_false] at hl
    have h9 := lin (g := g) (y := g + 3760) (off := 302) (by rw [hM]; omega); omega
  · have hM := mol_r q hq (c := 86) (by decide)
    have hb : longF (g + 3760) = true := hL.trans (by decide)
    rw [hb] at hl
    simp only [if_true] at hl
    have h9 := lin (g := g) (y := g + 3760) (off := 332) (by rw [hM]; omega); omega
  · have hM := mol_r q hq (c := 99) (by decide)
    have hb : longF (g + 3760) = false := hL.trans (by decide)
    rw [hb] at hl
    simp only [Bool.false_eq_true, if_false] at hl
    have h9 := lin (g := g) (y := g + 3760) (off := 302) (by rw [hM]; omega); omega
  · have hM := mol_r q hq (c := 111) (by decide)
    have hb : longF (g + 3760) = false := hL.trans (by decide)
    rw [hb] at hl
    simp only [Bool.false_eq_true, if_false] at hl
    have h9 := lin (g := g) (y := g + 3760) (off := 302) (by rw [hM]; omega); omega
  · have hM := mol_r q hq (c := 123) (by decide)
    have hb : longF (g + 3760) = true := hL.trans (by decide)
    rw [hb] at hl
    simp only [if_true] at hl
    have h9 := lin (g := g) (y := g + 3760) (off := 332) (by rw [hM]; omega); omega
  · have hM := mol_r q hq (c := 136) (by decide)
    have hb : longF (g + 3760) = false := hL.trans (by decide)
    rw [hb] at hl
    simp only [Bool.false_eq_true, if_false] at hl
    have h9 := lin (g := g) (y := g + 3760) (off := 302) (by rw [hM]; omega); omega
  · have hM := mol_r q hq (c := 148) (by decide)
    have hb : longF (g + 3760) = false := hL.trans (by decide)
    rw [hb] at hl
    simp only [Bool.false_eq_true, if_false] at hl
    by_cases h8 : g < 41055
    · exact ck_of (m := 5) (d := 9) (g0 := 40960) (n := 5) (by decide +kernel) (by omega) (by omega) (by omega)
    · have h9 := lin (g := g) (y := g + 3760) (off := 302) (by rw [hM]; omega); omega
  · have hM := mol_r q hq (c := 160) (by decide)
    have hb : longF (g + 3760) = true := hL.trans (by decide)
    rw [hb] at hl
    simp only [if_true] at hl
    have h9 := lin (g := g) (y := g + 3760) (off := 332) (by rw [hM]; omega); omega
  · have hM := mol_r q hq (c := 173) (by decide)
    have hb : longF (g + 3760) = false := hL.trans (by decide)
    rw [hb] at hl
    simp only [Bool.false_eq_true, if_false] at hl
    have h9 := lin (g := g) (y := g + 3760) (off := 302) (by rw [hM]; omega); omega
  · have hM := mol_r q hq (c := 185) (by decide)
    have hb : longF (g + 3760) = false := hL.trans (by decide)
    rw [hb] at hl
    simp only [Bool.false_eq_true, if_false] at hl
    by_cases h8 : g < 41780
    · exact ck_of (m := 5) (d := 9) (g0 := 40963) (n := 43) (by decide +kernel) (by omega) (by omega) (by omega)
    · have h9 := lin (g := g) (y := g + 3760) (off := 302) (by rw [hM]; omega); omega
  · have hM := mol_r q hq (c := 197) (by decide)
    have hb : longF (g + 3760) = true := hL.trans (by decide)
    rw [hb] at hl
    simp only [if_true] at hl
    have h9 := lin (g := g) (y := g + 3760) (off := 332) (by rw [hM]; omega); omega
  · have hM := mol_r q hq (c := 210) (by decide)
    have hb : longF (g + 3760) = false := hL.trans (by decide)
    rw [hb] at hl
    simp only [Bool.false_eq_true, if_false] at hl
    have h9 := lin (g := g) (y := g + 3760) (off := 302) (by rw [hM]; omega); omega
  · have hM := mol_r q hq (c := 222) (by decide)
    have hb : longF (g + 3760) = true := hL.trans (by decide)
    rw [hb] at hl
    simp only [if_true] at hl
    have h9 := lin (g := g) (y := g + 3760) (off := 332) (by rw [hM]; omega); omega
theorem core_10 {g : Int} (h : 73776 < g) : janF (g + 1) ≤ tishF (g + 3760) + offF (g + 3760) (if longF (g + 3760) = true then 13 else 12) + 14 - 1 := by
  obtain ⟨q, r, hq, hr⟩ := split19 (g + 3760)
  have hL := long_r q hq
  rcases hr with rfl | rfl | rfl | rfl | rfl | rfl | rfl | rfl | rfl | rfl | rfl | rfl | rfl | rfl | rfl | rfl | rfl | rfl | rfl
  · have hM := mol_r q hq (c := 0) (by decide)
    have hb : longF (g + 3760) = false := hL.trans (by decide)
    rw [hb]
    simp only [Bool.false_eq_true, if_false]
    have hl := lo_12 (g + 3760)
    have h9 := lin (g := g) (y := g + 3760) (off := 160) (by rw [hM]; omega); omega
  · have hM := mol_r q hq (c := 12) (by decide)
    have hb : longF (g + 3760) = false := hL.trans (by decide)
    rw [hb]
    simp only [Bool.false_eq_true, if_false]
    have hl := lo_12 (g + 3760)
    have h9 := lin (g := g) (y := g + 3760) (off := 160) (by rw [hM]; omega); omega
  · have hM := mol_r q hq (c := 24) (by decide)
    have hb : longF (g + 3760) = true := hL.trans (by decide)
    rw [hb]
    simp only [if_true]
    have hl := lo_13 hb
    have h9 := lin (g := g) (y := g + 3760) (off := 190) (by rw [hM]; omega); omega
  · have hM := mol_r q hq (c := 37) (by decide)
    have hb : longF (g + 3760) = false := hL.trans (by decide)
    rw [hb]
    simp only [Bool.false_eq_true, if_false]
    have hl := lo_12 (g + 3760)
    have h9 := lin (g := g) (y := g + 3760) (off := 160) (by rw [hM]; omega); omega
  · have hM := mol_r q hq (c := 49) (by decide)
    have hb : longF (g + 3760) = false := hL.trans (by decide)
    rw [hb]
    simp only [Bool.false_eq_true, if_false]
    have hl := lo_12 (g + 3760)
    by_cases h8 : g < 74259
    · exact ck_of (m := 12) (d := 14) (g0 := 73784) (n := 25) (by decide +kernel) (by omega) (by omega) (by omega)
    · have h9 := lin (g := g) (y := g + 3760) (off := 160) (by rw [hM]; omega); omega
  · have hM := mol_r q hq (c := 61) (by decide)
    have hb : longF (g + 3760) = true := hL.trans (by decide)
    rw [hb]
    simp only [if_true]
    have hl := lo_13 hb
    have h9 := lin (g := g) (y := g + 3760) (off := 190) (by rw [hM]; omega); omega
  · have hM := mol_r q hq (c := 74) (by decide)
    have hb : longF (g + 3760) = false := hL.trans (by decide)
    rw [hb]
    simp only [Bool.false_eq_true, if_false]
    have hl := lo_12 (g + 3760)
    have h9 := lin (g := g) (y := g + 3760) (off := 160) (by rw [hM]; omega); omega
  · have hM := mol_r q hq (c := 86) (by decide)
    have hb : longF (g + 3760) = true := hL.trans (by decide)
    rw [hb]
    simp only [if_true]
    have hl := lo_13 hb
    have h9 := lin (g := g) (y := g + 3760) (off := 190) (by rw [hM]; omega); omega
  · have hM := mol_r q hq (c := 99) (by decide)
    have hb : longF (g + 3760) = false := hL.trans (by decide)
    rw [hb]
    simp only [Bool.false_eq_true, if_false]
    have hl := lo_12 (g + 3760)
    have h9 := lin (g := g) (y := g + 3760) (off := 160) (by rw [hM]; omega); omega
  · have hM := mol_r q hq (c := 111) (by decide)
    have hb : longF (g + 3760) = false := hL.trans (by decide)
    rw [hb]
    simp only [Bool.false_eq_true, if_false]
    have hl := lo_12 (g + 3760)
    have h9 := lin (g := g) (y := g + 3760) (off := 160) (by rw [hM]; omega); omega
  · have hM := mol_r q hq (c := 123) (by decide)
    have hb : longF (g + 3760) = true := hL.trans (by decide)
    rw [hb]
    simp only [if_true]
    have hl := lo_13 hb
    have h9 := lin (g := g) (y := g + 3760) (off := 190) (by rw [hM]; omega); omega
  · have hM := mol_r q hq (c := 136) (by decide)
    have hb : longF (g + 3760) = false := hL.trans (by decide)
    rw [hb]
    simp only [Bool.false_eq_true, if_false]
    have hl := lo_12 (g + 3760)
    have h9 := lin (g := g) (y := g + 3760) (off := 160) (by rw [hM]; omega); omega
  · have hM := mol_r q hq (c := 148) (by decide)
    have hb : longF (g + 3760) = false := hL.trans (by decide)
    rw [hb]
    simp only [Bool.false_eq_true, if_false]
    have hl := lo_12 (g + 3760)
    by_cases h8 : g < 73906
    · exact ck_of (m := 12) (d := 14) (g0 := 73792) (n := 6) (by decide +kernel) (by omega) (by omega) (by omega)
    · have h9 := lin (g := g) (y := g + 3760) (off := 160) (by rw [hM]; omega); omega
  · have hM := mol_r q hq (c := 160) (by decide)
    have hb : longF (g + 3760) = true := hL.trans (by decide)
    rw [hb]
    simp only [if_true]
    have hl := lo_13 hb
    have h9 := lin (g := g) (y := g + 3760) (off := 190) (by rw [hM]; omega); omega
  · have hM := mol_r q hq (c := 173) (by decide)
    have hb : longF (g + 3760) = false := hL.trans (by decide)
    rw [hb]
    simp only [Bool.false_eq_true, if_false]
    have hl := lo_12 (g + 3760)
    have h9 := lin (g := g) (y := g + 3760) (off := 160) (by rw [hM]; omega); omega
  · have hM := mol_r q hq (c := 185) (by decide)
    have hb : longF (g + 3760) = false := hL.trans (by decide)
    rw [hb]
    simp only [Bool.false_eq_true, if_false]
    have hl := lo_12 (g + 3760)
    by_cases h8 : g < 74631
    · exact ck_of (m := 12) (d := 14) (g0 := 73795) (n := 44) (by decide +kernel) (by omega) (by omega) (by omega)
    · have h9 := lin (g := g) (y := g + 3760) (off := 160) (by rw [hM]; omega); omega
  · have hM := mol_r q hq (c := 197) (by decide)
    have hb : longF (g + 3760) = true := hL.trans (by decide)
    rw [hb]
    simp only [if_true]
    have hl := lo_13 hb
    have h9 := lin (g := g) (y := g + 3760) (off := 190) (by rw [hM]; omega); omega
  · have hM := mol_r q hq (c := 210) (by decide)
    have hb : longF (g + 3760) = false := hL.trans (by decide)
    rw [hb]
    simp only [Bool.false_eq_true, if_false]
    have hl := lo_12 (g + 3760)
    have h9 := lin (g := g) (y := g + 3760) (off := 160) (by rw [hM]; omega); omega
  · have hM := mol_r q hq (c := 222) (by decide)
    have hb : longF (g + 3760) = true := hL.trans (by decide)
    rw [hb]
    simp only [if_true]
    have hl := lo_13 hb
    have h9 := lin (g := g) (y := g + 3760) (off := 190) (by rw [hM]; omega); omega
theorem off_hi (y m : Int) : offF y m ≤ 326 - (if longF y = true then 0 else 30) := by
  have h8 := ml_lo y 8
  have h9 := ml_lo y 9
  have h12 := ml12 y
  unfold offF
  dsimp only
  cases h : longF y <;> rw [h] at h12 <;> simp at h12 ⊢ <;> (repeat' split) <;> omega
theorem later {g n : Int} (h : janF (g + 1) ≤ n) : yF n ≠ g := by
  intro hc
  have := (yF_bounds n).2
  rw [hc] at this
  omega
theorem fday_hi (k : Int) : fDay k ≤ 25 := by unfold fDay; (repeat' split) <;> omega
theorem core {k g : Int} (hk : In11 k) (h : lstF k < g) : janF (g + 1) ≤ tishF (g + 3760) + offF (g + 3760) (fMon k g) + fDay k - 1 := by
  rcases hk with rfl | rfl | rfl | rfl | rfl | rfl | rfl | rfl | rfl | rfl | rfl
  · exact core_0 h
  · exact core_1 h
  · exact core_2 h
  · exact core_3 h
  · exact core_4 h
  · exact core_5 h
  · exact core_6 h
  · exact core_7 h
  · exact core_8 h
  · exact core_9 h
  · have h1 := core_10 h
    rw [← leap_long] at h1
    exact h1
theorem feast_out (k g : Int) (hk : In11 k) (hg : lstF k < g) : feastN k g = none := by
  have hlo : -3757 ≤ lstF k := by
    rcases hk with rfl | rfl | rfl | rfl | rfl | rfl | rfl | rfl | rfl | rfl | rfl <;> decide
  have hc := core hk hg
  have hd := fday_lo hk
  have hd2 := fday_hi k
  have h1 := heb_off (y := g + 3760) (by omega) hd (fmon_in g hk)
  have h2 := heb_off (y := g + 3760 + 1) (by omega) hd (fmon_in g hk)
  have h3 := off_lo (g + 3760 + 1) (fMon k g)
  have h4 := off_hi (g + 3760) (fMon k g)
  have h5 : tishF (g + 3760) + offF (g + 3760) (fMon k g) + fDay k - 1 ≤ tishF (g + 3760 + 1) := by
    cases h : longF (g + 3760)
    · have h6 := size_12 h
      rw [h] at h4
      unfold sizeF at h6
      simp at h4
      omega
    · have h6 := size_13 h
      rw [h] at h4
      unfold sizeF at h6
      simp at h4
      omega
  unfold feastN gyOk
  rw [if_neg (later (by omega)), if_neg (later (by omega))]
  rfl
end Mine
end
section
open PySem PySem.W PyProof.Rows PySem.Calls PySem.Spec
set_option Elab.async false
set_option maxRecDepth 100000
set_option maxHeartbeats 8000000
set_option linter.unusedSimpArgs false
namespace Mine
local macro_rules | `(tactic| walk_at "no such key") => `(tactic| fail)
theorem c_due (w : World) (k g n : Int) (ev : Value) (b : Bool) (t1 t2 : Tok) (d0 : Addr) (o0 : Obj) (hk : k = 0 ∨ k = 1 ∨ k = 2 ∨ k = 3 ∨ k = 4 ∨ k = 5 ∨ k = 6 ∨ k = 7 ∨ k = 8 ∨ k = 9 ∨ k = 10) (hv : EveV ev b) (hn : dueN k g = some n) : ConW3 w 288 6 [.int k t1, .int g t2, ev] (yF (eveF n b)) (mF (eveF n b)) (dF (eveF n b)) [(d0, o0)] := by
  unfold dueN at hn
  split at hn
  · cases hn; exact c_dueA w k g ev b t1 t2 d0 o0 hk hv (by assumption)
  · split at hn
    · cases hn; exact c_dueB w k g ev b t1 t2 d0 o0 hk hv (by assumption) (by assumption)
    · cases hn
theorem x_due (w : World) (k g : Int) (ev : Value) (t1 t2 : Tok) (d0 : Addr) (o0 : Obj) (hk : k = 0 ∨ k = 1 ∨ k = 2 ∨ k = 3 ∨ k = 4 ∨ k = 5 ∨ k = 6 ∨ k = 7 ∨ k = 8 ∨ k = 9 ∨ k = 10) (hn : dueN k g = none) : ConW w 288 6 [.int k t1, .int g t2, ev] (fun t => .str (Str.ofString "refused") t) [(d0, o0)] := by
  unfold dueN at hn
  split at hn
  · cases hn
  · split at hn
    · cases hn
    · exact c_dueX w k g ev t1 t2 d0 o0 hk (by assumption) (by assumption)
theorem end_t1 {a b : Int} (h : -3757 ≤ a ∧ a < b) : -3759 ≤ a - 1 := by omega
theorem end_t2 {a b : Int} (h : -3757 ≤ a ∧ a < b) : -3759 ≤ b := by omega
theorem end_y1 {a b s : Int} (h : -3757 ≤ a ∧ a < b) : -3759 ≤ -3759 + s.fmod (a + 3759) := by
  have := Int.fmod_nonneg_of_pos s (b := a + 3759) (by omega)
  omega
theorem end_y2 {a b s : Int} (h : -3757 ≤ a ∧ a < b) : -3759 ≤ a + s.fmod (b - a + 1) := by
  have := Int.fmod_nonneg_of_pos s (b := b - a + 1) (by omega)
  omega
theorem end_y3 {s : Int} (h : 0 ≤ s) : -3759 ≤ -3759 + s := by omega
theorem ends_lo (k : Int) (hk : k = 0 ∨ k = 1 ∨ k = 2 ∨ k = 3 ∨ k = 4 ∨ k = 5 ∨ k = 6 ∨ k = 7 ∨ k = 8 ∨ k = 9 ∨ k = 10) : -3757 ≤ fstF k ∧ fstF k < lstF k := by
  rcases hk with rfl | rfl | rfl | rfl | rfl | rfl | rfl | rfl | rfl | rfl | rfl <;> decide
local macro_rules | `(tactic| walk_at "eval Call") => `(tactic| (k_here; (with_reducible show wpAny _ _ (eval (Expr.Call (Expr.Name _ _) _ [] _) _) _ _ _); k_dflt (refine Call_ ?_)))
local macro_rules | `(tactic| walk_at "ite") => `(tactic| (k_here; k_openite; (with_reducible show ite ((_ == _) = true) _ _); first | (refine ite_pos (beq_iff_eq.mpr (by first | assumption | omega)) ?_; walk_say "PRUNED eq") | (refine ite_neg (fun hc => (by first | (have hc' := beq_iff_eq.mp hc; contradiction) | (have hc' := beq_iff_eq.mp hc; omega))) ?_; walk_say "PRUNED eq")))
local macro_rules | `(tactic| walk_at "compareOp In int ref") => `(tactic| (k_here; k_dflt (refine' in_K ?k1 ?k2 ?k3 ?k4 ?_; (case k1 => k_asm); (case k2 => k_asm); (case k3 => k_is); (case k4 => repeat constructor); k_whole)))
local macro_rules | `(tactic| walk_at "eval Name") => `(tactic| (k_here; (with_reducible show wpAny _ _ (eval (Expr.Name _ _) (envOf _ _ _ _ _)) _ _ _); name_kind "local"; k_dflt (refine' ld ?F ?v ?_ ?a ?b ?c; (case a => exact rfl); (case b => exact ND.kind (by assumption) (by dsimp only; repeat (first | with_reducible exact mem_hd | with_reducible refine mem_tl ?_))); (case F => k_asm); (case v => (repeat (first | with_reducible exact lk_hit | with_reducible exact ll_hit | (with_reducible refine' lk_miss ?lkh ?_; (case lkh => decide +kernel)) | (with_reducible refine' ll_miss ?lkh ?_; (case lkh => decide +kernel))))); (case c => decide +kernel); k_whole)))
local macro_rules | `(tactic| walk_at "eval Name") => `(tactic| (k_here; (with_reducible show wpAny _ _ (eval (Expr.Name _ _) (envOf _ _ _ _ _)) _ _ _); name_kind "globalImplicit"; k_dflt (refine' name_K ?F ?X ?T ?e ?_ ?a ?b ?c; (case a => exact rfl); (case b => exact ND.kind (by assumption) (by dsimp only; repeat (first | with_reducible exact mem_hd | with_reducible refine mem_tl ?_))); (case F => k_asm); (case X => k_asm); (case T => k_asm); (case e => k_is); (case c => decide +kernel); k_whole)))
local macro_rules | `(tactic| walk_at "loadName") => `(tactic| (k_here; (with_reducible show wpAny _ _ (loadName (envOf _ _ _ _ _) _) _ _ _); k_dflt (refine' ldn ?F ?v ?_ ?a ?b; (case a => exact rfl); (case b => exact ND.kind (by assumption) (by dsimp only; repeat (first | with_reducible exact mem_hd | with_reducible refine mem_tl ?_))); (case F => k_asm); (case v => (repeat (first | with_reducible exact lk_hit | with_reducible exact ll_hit | (with_reducible refine' lk_miss ?lkh ?_; (case lkh => decide +kernel)) | (with_reducible refine' ll_miss ?lkh ?_; (case lkh => decide +kernel))))); k_whole)))
local macro_rules | `(tactic| walk_at "storeName") => `(tactic| (k_here; (with_reducible show wpAny _ _ (storeName (envOf _ _ _ _ _) _ _) _ _ _); k_dflt (refine' stN ?F ?N ?_ ?a ?b; (case F => k_asm); (case N => k_asm); (case a => exact rfl); (case b => exact ND.kind (by assumption) (by dsimp only; repeat (first | with_reducible exact mem_hd | with_reducible refine mem_tl ?_))); k_whole; intro h' F' N'; (try dsimp only); (try k_sweep))))
local macro_rules | `(tactic| walk_at "binaryOp Mult int int") => `(tactic| ((with_reducible refine' mul_int ?_ ?hm); k_dflt ((case hm => first | exact IntMulOk.of_right (by decide +kernel) | exact IntMulOk.of_left (by decide +kernel)); k_whole)))
local macro_rules | `(tactic| walk_at $s:str) => `(tactic| k_extra $s)
local macro_rules | `(tactic| walk_at "subscriptTail") => `(tactic| (k_here; (with_reducible show wpAny _ _ (subscriptTail _ _ (Value.ref _) (Value.int _ _)) _ _ _); k_dflt (first | (refine' topTup_K ?F ?X ?l ?a ?b ?c ?d ?_; (case F => k_asm); (case X => k_asm); (case l => k_is); (case a => decide); (case b => decide); (case c => rfl); (case d => rfl)) | (refine' item_tupleT ?t ?a ?b ?c ?d ?_; (case t => exact News.isTup (by k_asm) (by k_mem)); (case a => decide); (case b => decide); (case c => rfl); (case d => rfl); k_whole))))
theorem gen11 {M : Model} {A : Around} {E : Value → Shared → Prop} {s : Shared} {env : Env} {x : Str} {X : Int} {t : Tok} {Q : Unit → Shared → Prop} (h : ∀ k : Int, (k = 0 ∨ k = 1 ∨ k = 2 ∨ k = 3 ∨ k = 4 ∨ k = 5 ∨ k = 6 ∨ k = 7 ∨ k = 8 ∨ k = 9 ∨ k = 10) → wpAny M A (storeName env x (.int k t)) Q E s) : wpAny M A (storeName env x (.int (X.fmod 11) t)) Q E s := h _ (by rw [fmodE X (by decide)]; omega)
theorem genAny {M : Model} {A : Around} {E : Value → Shared → Prop} {s : Shared} {env : Env} {x : Str} {X : Int} {t : Tok} {Q : Unit → Shared → Prop} (h : ∀ k : Int, wpAny M A (storeName env x (.int k t)) Q E s) : wpAny M A (storeName env x (.int X t)) Q E s := h _
theorem genPos {M : Model} {A : Around} {E : Value → Shared → Prop} {s : Shared} {env : Env} {x : Str} {X : Int} {t : Tok} {Q : Unit → Shared → Prop} (hX : 0 ≤ X) (h : ∀ k : Int, 0 ≤ k → wpAny M A (storeName env x (.int k t)) Q E s) : wpAny M A (storeName env x (.int X t)) Q E s := h _ hX
def JSt {σ : Type} (h₀ : Heap) (L : Addr) (s : Shared) (fr : σ → Str → Option Value) (nw : σ → List (Addr × Obj)) (P : σ → Prop) (fl : Flow) (s' : Shared) : Prop :=
  fl = .next ∧ ∃ c h' tk', s' = { s with heap := h', toks := tk' } ∧ Fr h₀ L h' (fr c) ∧ News h₀ L h' (nw c) ∧ P c
theorem jst_end {σ : Type} {h₀ h' : Heap} {L : Addr} {s s' : Shared} {fr : σ → Str → Option Value} {nw : σ → List (Addr × Obj)} {P : σ → Prop} {tk' : Nat} (c : σ) (hs : s' = { s with heap := h', toks := tk' }) (F : Fr h₀ L h' (fr c)) (N : News h₀ L h' (nw c)) (hp : P c) : JSt h₀ L s fr nw P .next s' := ⟨rfl, c, h', tk', hs, F, N, hp⟩
theorem join_st {σ : Type} {M : Model} {A : Around} {E : Value → Shared → Prop} {s : Shared} {h₀ : Heap} {L : Addr} {m : Str → Option Value} {news : List (Addr × Obj)} {env : Env} {st : Stmt} (fr : (Str → Option Value) → σ → Str → Option Value) (nw : List (Addr × Obj) → σ → List (Addr × Obj)) (P : σ → Prop) {Q : Flow → Shared → Prop} (_F : Fr h₀ L s.heap m) (_N : News h₀ L s.heap news)
    (hc : JMark → wpAny M A (exec st env) (JSt h₀ L s (fr m) (nw news) P) E s)
    (hk : ∀ (c : σ) (h' : Heap) (tk' : Nat), P c → Fr h₀ L h' (fr m c) → News h₀ L h' (nw news c) → Q .next { s with heap := h', toks := tk' }) : wpAny M A (exec st env) Q E s := by
  refine wpAny_mono (hc ⟨⟩) (fun fl s₂ hq => ?_) fun _ _ h => h
  obtain ⟨rfl, c, h', tk', rfl, F', N', hp⟩ := hq
  exact hk c h' tk' hp F' N'
theorem ex_y {k g n : Int} (_hn : feastN k g = some n) (b : Bool) : ∃ x, yF (eveF n b) = x := ⟨_, rfl⟩
theorem ex_m {k g n : Int} (_hn : feastN k g = some n) (b : Bool) : ∃ x, mF (eveF n b) = x := ⟨_, rfl⟩
theorem ex_d {k g n : Int} (_hn : feastN k g = some n) (b : Bool) : ∃ x, dF (eveF n b) = x := ⟨_, rfl⟩
theorem c_toldG (w : World) (k g n : Int) (ev : Value) (b : Bool) (t1 t2 : Tok) (x y z : Int) (hk : k = 0 ∨ k = 1 ∨ k = 2 ∨ k = 3 ∨ k = 4 ∨ k = 5 ∨ k = 6 ∨ k = 7 ∨ k = 8 ∨ k = 9 ∨ k = 10) (hv : EveV ev b) (hn : feastN k g = some n) (hx : yF (eveF n b) = x) (hy : mF (eveF n b) = y) (hz : dF (eveF n b) = z) : Con30 w 302 13 [.int k t1, .int g t2, ev] x y z := by
  subst hx; subst hy; subst hz; exact c_told w k g n ev b t1 t2 hk hv hn
theorem c_dueG (w : World) (k g n : Int) (ev : Value) (b : Bool) (t1 t2 : Tok) (d0 : Addr) (o0 : Obj) (x y z : Int) (hk : k = 0 ∨ k = 1 ∨ k = 2 ∨ k = 3 ∨ k = 4 ∨ k = 5 ∨ k = 6 ∨ k = 7 ∨ k = 8 ∨ k = 9 ∨ k = 10) (hv : EveV ev b) (hn : dueN k g = some n) (hx : yF (eveF n b) = x) (hy : mF (eveF n b) = y) (hz : dF (eveF n b) = z) : ConW3 w 288 6 [.int k t1, .int g t2, ev] x y z [(d0, o0)] := by
  subst hx; subst hy; subst hz; exact c_due w k g n ev b t1 t2 d0 o0 hk hv hn
theorem some_due {k g n : Int} (hk : k = 0 ∨ k = 1 ∨ k = 2 ∨ k = 3 ∨ k = 4 ∨ k = 5 ∨ k = 6 ∨ k = 7 ∨ k = 8 ∨ k = 9 ∨ k = 10) (hg : -3759 ≤ g) (hn : feastN k g = some n) : dueN k g = some n := by rw [← feast_due k g hk hg, hn]
theorem none_due {k g : Int} (hk : k = 0 ∨ k = 1 ∨ k = 2 ∨ k = 3 ∨ k = 4 ∨ k = 5 ∨ k = 6 ∨ k = 7 ∨ k = 8 ∨ k = 9 ∨ k = 10) (hg : -3759 ≤ g) (hn : feastN k g = none) : dueN k g = none := by rw [← feast_due k g hk hg, hn]
structure SzMark : Prop where
local macro_rules | `(tactic| walk_at "call ref") => `(tactic| (k_here; k_dflt (refine' Con30.use ?kC ?k1 ?k2 ?k3 ?k5 ?kK ?kd ?ku ?_; (case kC => first | exact c_toldG _ _ _ _ _ _ _ _ _ _ _ (by with_reducible assumption) (by with_reducible assumption) (by with_reducible assumption) (by with_reducible assumption) (by with_reducible assumption) (by with_reducible assumption)); (case k1 => k_asm); (case k2 => k_asm); (case k3 => k_asm); (case k5 => k_asm); (case kK => first | exact rfl | assumption); (case kd => ktr_room); (case ku => ktr_units); k_whole; intro D9 t7 t8 t9 c9 h9 tk9 F9 N9; (try dsimp only); (try k_sweep); (try k_fold))))
local macro_rules | `(tactic| walk_at "call ref") => `(tactic| (k_here; k_dflt (refine' ConR.use ?kC ?k1 ?k2 ?k3 ?k5 ?kX ?kT ?kK ?kd ?ku ?_; (case kC => exact x_told _ _ _ _ _ _ (by with_reducible assumption) (by with_reducible assumption)); (case k1 => k_asm); (case k2 => k_asm); (case k3 => k_asm); (case k5 => k_asm); (case kX => with_reducible assumption); (case kT => with_reducible assumption); (case kK => first | exact rfl | assumption); (case kd => ktr_room); (case ku => ktr_units); k_whole; intro t9 D9 o9 h9 tk9 F9 N9; (try dsimp only); (try k_sweep); (try k_fold))))
local macro_rules | `(tactic| walk_at "call ref") => `(tactic| (k_here; k_dflt (refine' ConW.use ?kC ?k1 ?k2 ?k3 ?k4 ?k5 ?kK ?kd ?ku ?_; (case k4 => (refine' cb_drop ?cbN ?cbS; (case cbN => assumption); (case cbS => (intro p hp; rw [List.mem_singleton.mp hp]; exact List.Mem.head _)))); (case kC => exact x_due _ _ _ _ _ _ _ _ (by with_reducible assumption) (by with_reducible assumption)); (case k1 => k_asm); (case k2 => k_asm); (case k3 => k_asm); (case k5 => k_asm); (case kK => first | exact rfl | assumption); (case kd => ktr_room); (case ku => ktr_units); k_whole; intro t9 h9 tk9 F9 N9; (try dsimp only); (try k_sweep); (try k_fold))))
local macro_rules | `(tactic| walk_at "call ref") => `(tactic| (k_here; k_dflt (refine' ConW3.use ?kC ?k1 ?k2 ?k3 ?k4 ?k5 ?kK ?kd ?ku ?_; (case k4 => k_asm); (case kC => exact c_dueG _ _ _ _ _ _ _ _ _ _ _ _ _ (by with_reducible assumption) (by with_reducible assumption) (by with_reducible assumption) (by with_reducible assumption) (by with_reducible assumption) (by with_reducible assumption)); (case k1 => k_asm); (case k2 => k_asm); (case k3 => k_asm); (case k5 => k_asm); (case kK => first | exact rfl | assumption); (case kd => ktr_room); (case ku => ktr_units); k_whole; intro D9 t7 t8 t9 c9 h9 tk9 F9 N9 hl9; (try simp only [AllLt, and_true] at hl9); (try dsimp only); (try k_sweep); (try k_fold))))
local macro_rules | `(tactic| walk_at $s:str) => `(tactic| k_extra $s)
set_option rowWalk.seconds 0
theorem walk_law : PySem.Challenge.rw_aq6014_01.Holds := Mine.hd (by
  w_strict (
    k_go0
    (all_goals try k_fold)
    k_with_none
    k_with "storeName" => ((with_reducible show wpAny _ _ (storeName _ (Str.ofString "which") _) _ _ _); k_dflt (refine gen11 ?_; intro k hk; have hlo := ends_lo k hk))
    k_with "storeName" => ((with_reducible show wpAny _ _ (storeName _ (Str.ofString "pick") (Value.int (cellAt _ _ _) _)) _ _ _); k_dflt (refine genAny ?_; intro pk))
    k_with "storeName" => ((with_reducible show wpAny _ _ (storeName _ (Str.ofString "kind") (Value.int (Int.fmod _ _) _)) _ _ _); k_dflt (refine genAny ?_; intro kd))
    k_with "storeName" => ((fail_if_success (with_reducible rename SzMark => hz)); (with_reducible show wpAny _ _ (storeName _ (Str.ofString "size") _) _ _ _); k_dflt (refine genPos (by first | omega | exact Int.natCast_nonneg _ | (split <;> omega)) ?_; intro sz hsz0; have hzm := SzMark.mk; have hout := feast_out k (lstF k + 1 + sz) hk (by omega)))
    k_with "exec Assign" => ((fail_if_success (with_reducible rename JMark => hJ)); (with_reducible show wpAny _ _ (exec (Stmt.Assign [Expr.Name (Str.ofString "eve") _] _ _) _) _ _ _); k_dflt (refine' join_st (σ := Value × Bool × Addr × Obj) (fun m c y => if y = (Str.ofString "eve") then some c.1 else m y) (fun news c => (c.2.2.1, c.2.2.2) :: news) (fun c => EveV c.1 c.2.1) ?F ?N ?hC1 ?hK1; (case F => k_asm); (case N => k_asm); (case' hK1 => (rintro ⟨ev, eb, dE, oE⟩ h9 tk9 hev F9 N9; (try dsimp only at hev F9 N9); (try dsimp only); (try k_sweep); (try k_fold))); (case' hC1 => (intro hJ; (try k_fold)))))
    k_with "exec Assign" => ((fail_if_success (with_reducible rename JMark => hJ)); (with_reducible show wpAny _ _ (exec (Stmt.Assign [Expr.Tuple _ _ _] (Expr.Subscript _ _ _) _) _) _ _ _); k_dflt (refine' join2 (Str.ofString "first") (fstF k) (Str.ofString "last") (lstF k) ?F ?N ?_ ?_; (case F => k_asm); (case N => k_asm); rotate_left; intro t8 t9 h9 tk9 F9 N9; (try dsimp only); (try k_sweep); (try k_fold); rotate_left; intro hJ; (try k_fold); clear hlo hout; rcases hk with rfl | rfl | rfl | rfl | rfl | rfl | rfl | rfl | rfl | rfl | rfl))
    k_with "exec Assign" => ((fail_if_success (with_reducible rename JMark => hJ)); (with_reducible show wpAny _ _ (exec (Stmt.Assign [Expr.Tuple _ _ _] (Expr.IfExp _ _ _ _) _) _) _ _ _); k_dflt (refine' join_st (σ := Int × Tok × Int × Tok) (fun m c y => if y = (Str.ofString "refused_year") then some (.int c.2.2.1 c.2.2.2) else if y = (Str.ofString "told_year") then some (.int c.1 c.2.1) else m y) (fun news c => news) (fun c => -3759 ≤ c.1 ∧ feastN k c.2.2.1 = none) ?F ?N ?hC2 ?hK2; (case F => k_asm); (case N => k_asm); (case' hK2 => (rintro ⟨ty, tt1, ry, tt2⟩ h9 tk9 ⟨hty, hry⟩ F9 N9; (try dsimp only at hty hry F9 N9); (try dsimp only); (try k_sweep); (try k_fold))); (case' hC2 => (intro hJ; (try k_fold)))))
    k_with "exec If" => ((fail_if_success (with_reducible rename JMark => hJ)); (with_reducible show wpAny _ _ (exec (Stmt.If (Expr.Compare (Expr.Call _ _ _ _) [CmpOp.NotEq] [Expr.Call _ _ _ _] _) _ _ _) _) _ _ _); k_dflt (refine' join_st (σ := Unit) (fun m c y => m y) (fun news c => []) (fun c => True) ?F ?N ?hC3 ?hK3; (case F => k_asm); (case N => k_asm); (case' hK3 => (rintro ⟨⟩ h9 tk9 - F9 N9; (try dsimp only at F9 N9); (try dsimp only); (try k_sweep); (try k_fold))); (case' hC3 => (intro hJ; (cases hn : feastN k ty) <;> (first | (have hd := none_due hk hty hn) | (have hd := some_due hk hty hn; obtain ⟨x9, hx9⟩ := ex_y hn eb; obtain ⟨y9, hy9⟩ := ex_m hn eb; obtain ⟨z9, hz9⟩ := ex_d hn eb)) <;> (try k_fold)))))
    k_with "exec If" => ((fail_if_success (with_reducible rename JMark => hJ)); (with_reducible show wpAny _ _ (exec (Stmt.If (Expr.Compare (Expr.Name (Str.ofString "kind") _) [CmpOp.Eq] [Expr.Constant (Const.int 1) _ _] _) _ _ _) _) _ _ _); k_dflt (refine' join_st (σ := Int × Tok) (fun m c y => if y = (Str.ofString "year") then some (.int c.1 c.2) else m y) (fun news c => news) (fun c => -3759 ≤ c.1) ?F ?N ?hC4 ?hK4; (case F => k_asm); (case N => k_asm); (case' hK4 => (rintro ⟨yr, tyr⟩ h9 tk9 hyr F9 N9; (try dsimp only at hyr F9 N9); (try dsimp only); (try k_sweep); (try k_fold); clear hry; (cases hn2 : feastN k yr) <;> (first | (have hd2 := none_due hk hyr hn2) | (have hd2 := some_due hk hyr hn2; obtain ⟨x9, hx9⟩ := ex_y hn2 eb; obtain ⟨y9, hy9⟩ := ex_m hn2 eb; obtain ⟨z9, hz9⟩ := ex_d hn2 eb)))); (case' hC4 => (intro hJ; (try k_fold)))))
    k_steps
    k_with_none
    all_goals first
      | (refine joined2_end ?_ ?_ rfl (by k_asm) (by k_asm) <;> rfl)
      | (refine jst_end () rfl (by k_asm) News.nil trivial)
      | (refine jst_end ⟨_, false, _, _⟩ rfl (by assumption) (by assumption) ?_; exact Or.inl ⟨rfl, rfl⟩)
      | (refine jst_end ⟨_, false, _, _⟩ rfl (by assumption) (by assumption) ?_; exact Or.inr rfl)
      | (refine jst_end ⟨_, true, _, _⟩ rfl (by assumption) (by assumption) ?_; exact Or.inr rfl)
      | (refine jst_end ⟨fstF k - 1, _, fstF k, _⟩ rfl (by assumption) (by first | assumption | (refine' cb_drop ?cbN ?cbS; (case cbN => assumption); (case cbS => kcj_all))) ?_; exact ⟨end_t1 hlo, feast_first _ hk⟩)
      | (refine jst_end ⟨lstF k, _, lstF k + 1, _⟩ rfl (by assumption) (by first | assumption | (refine' cb_drop ?cbN ?cbS; (case cbN => assumption); (case cbS => kcj_all))) ?_; exact ⟨end_t2 hlo, feast_out _ _ hk (Int.lt_succ _)⟩)
      | (refine jst_end ⟨_, _⟩ rfl (by assumption) (by assumption) ?_; first | exact end_y1 hlo | exact end_y2 hlo | exact end_y3 hsz0)))
end Mine
end
set_option maxRecDepth 100000 in
set_option maxHeartbeats 8000000 in
theorem PySem.Challenge.cw_aq6014_01_holds : PySem.Challenge.rw_aq6014_01.Holds := by
  exact Mine.walk_law
