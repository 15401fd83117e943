import PyProof.Rows.All
import Wide.All
import OpenK.AllK
import Wide.FinOn
import PySem.Challenge.RW_pk0046_01
open PySem PySem.W PyProof.Rows
set_option Elab.async false
namespace Mine
set_option maxRecDepth 100000 in
set_option maxHeartbeats 8000000 in
open_top hd for PySem.Challenge.rw_pk0046_01
end Mine
section
open PySem PySem.W PyProof.Rows PySem.Calls
namespace Mine
/-- a text out of its signs' numbers -/
def S (l : List Nat) : Str := ⟨l.toArray⟩
theorem S_append (a b : List Nat) : S a ++ S b = S (a ++ b) := by
  show (Str.mk (a.toArray ++ b.toArray)) = Str.mk (a ++ b).toArray
  simp
theorem S_snoc (a : List Nat) (n : Nat) : S a ++ (⟨#[n]⟩ : Str) = S (a ++ [n]) := S_append a [n]
theorem S_length (a : List Nat) : (S a).length = a.length := by simp [S, Str.length]
theorem S_inj {a b : List Nat} : S a = S b ↔ a = b := by
  constructor
  · intro h; have := congrArg (fun x => x.cps.toList) h; simpa [S] using this
  · intro h; rw [h]
theorem S_of (x : Str) : S x.cps.toList = x := by cases x; simp [S]
structure PS where
  res : List (List Nat)
  part : List Nat
  esc : Bool
  quo : Bool
deriving DecidableEq
def pstep (c : PS) (n : Nat) : PS :=
  if c.esc then { c with part := c.part ++ [n], esc := false }
  else if c.quo then
    (if n = 92 then { c with esc := true } else if n = 34 then { c with quo := false, part := c.part ++ [n] } else { c with part := c.part ++ [n] })
  else if n = 44 then { c with res := c.res ++ [c.part], part := [] }
  else if n = 34 then { c with quo := true, part := c.part ++ [n] }
  else { c with part := c.part ++ [n] }
def pinit : PS := ⟨[], [], false, false⟩
def stripL (l : List Nat) : List Nat := (Txt.strip (S l)).cps.toList
def pfin (c : PS) : List (List Nat) := (if c.part = [] then c.res else c.res ++ [c.part]).map stripL
def parseL (l : List Nat) : List (List Nat) := pfin (l.foldl pstep pinit)
theorem strip_S (l : List Nat) : Txt.strip (S l) = S (stripL l) := (S_of _).symm
end Mine
namespace Mine
theorem codes_lt {x : Str} {pre post : List Int} {n : Int} (h : KStt.codes x = pre ++ n :: post) : pre.length + 1 ≤ x.length := by
  have := congrArg List.length h
  rw [KStt.codes_length] at this
  simp only [List.length_append, List.length_cons] at this
  omega
theorem sz_S {l : List Nat} {k : Nat} (h : l.length ≤ k) : (S l).length ≤ k := by rw [S_length]; exact h
theorem sz_vs {vs : List Value} {ss : List (List Nat)} {k : Nat} (h : StrsAre vs (ss.map S)) (hk : ss.length ≤ k) : vs.length ≤ k := by
  have := strs_size h
  simp only [List.length_map, List.size_toArray] at this
  omega
end Mine
namespace Mine
theorem sgnT {n k : Nat} {x : Str} (hx : x = S [k]) (h : ((⟨#[n]⟩ : Str) == x) = true) : n = k := by
  subst hx; have := eq_of_beq h; simpa using (S_inj (a := [n]) (b := [k])).mp this
theorem sgnF {n k : Nat} {x : Str} (hx : x = S [k]) (h : ((⟨#[n]⟩ : Str) == x) = false) : n ≠ k := by
  subst hx; intro e; subst e
  have : ((S [n]) == (S [n])) = true := beq_self_eq_true _
  exact absurd (this.symm.trans h) (by decide)
theorem toNat_snoc (pre : List Int) (n : Nat) : (pre ++ [(n : Int)]).map Int.toNat = pre.map Int.toNat ++ [n] := by simp
theorem codes_toNat (x : Str) : (KStt.codes x).map Int.toNat = x.cps.toList := by
  unfold KStt.codes; rw [List.map_map]
  exact (List.map_congr_left (g := id) fun c _ => Int.toNat_natCast c).trans (List.map_id _)
theorem foldl_snoc_eq {c d : PS} {pre : List Int} {n : Nat} (hc : c = (pre.map Int.toNat).foldl pstep pinit) (hd : d = pstep c n) : d = ((pre ++ [(n : Int)]).map Int.toNat).foldl pstep pinit := by
  rw [toNat_snoc, List.foldl_append, ← hc, hd]; rfl
theorem pstep_part (c : PS) (n : Nat) : (pstep c n).part.length ≤ c.part.length + 1 := by
  unfold pstep; repeat' split
  all_goals simp
theorem pstep_all (c : PS) (n k : Nat) (h1 : c.part.length ≤ k) (h : ∀ q ∈ c.res, q.length ≤ k) : ∀ q ∈ (pstep c n).res, q.length ≤ k + 1 := by
  have h' : ∀ q ∈ c.res, q.length ≤ k + 1 := fun q hq => Nat.le_succ_of_le (h q hq)
  unfold pstep; (repeat' split) <;> first | exact h' | skip
  intro q hq
  rcases List.mem_append.mp hq with hq | hq
  · exact h' q hq
  · rw [List.mem_singleton.mp hq]; omega
theorem pstep_res (c : PS) (n : Nat) : (pstep c n).res.length ≤ c.res.length + 1 := by
  unfold pstep; repeat' split
  all_goals simp
end Mine
namespace Mine
theorem S_ne {l : List Nat} (h : ((S l).length : Int) ≠ 0) : l ≠ [] := fun e => h (by rw [e]; rfl)
theorem S_eq0 {l : List Nat} (h : ((S l).length : Int) = 0) : l = [] := by rw [S_length] at h; exact List.length_eq_zero_iff.mp (by omega)
end Mine
namespace Mine
theorem seq0 (k : Nat) : seqIndex? 0 (k + 1) = some 0 := by
  unfold seqIndex?
  have h : (0 : Int) < ((k + 1 : Nat) : Int) := by omega
  simp [h]
end Mine
end
section
open PySem PySem.W PyProof.Rows PySem.Calls
namespace Mine
/-- all that stands in h, but at hs, stands so in h' -/
def Kept (hs : List Addr) (h h' : Heap) : Prop := ∀ b o, h.get? b = some o → b ∉ hs → h'.get? b = some o
theorem Kept.refl (hs : List Addr) (h : Heap) : Kept hs h h := fun _ _ e _ => e
theorem Kept.trans {hs : List Addr} {a b c : Heap} (x : Kept hs a b) (y : Kept hs b c) : Kept hs a c := fun d o e n => y d o (x d o e n) n
theorem Kept.fr {hs : List Addr} {h₀ h h' : Heap} {L : Addr} {m : Str → Option Value} (k : Kept hs h h') (F : Fr h₀ L h m) (hL : L ∉ hs) (hb : ∀ b ∈ hs, h₀.get? b = none) : Fr h₀ L h' m := by
  obtain ⟨oL, es, ep, e1, r⟩ := F.ns
  refine ⟨⟨oL, es, ep, k _ _ e1 hL, r⟩, fun b o e => k _ _ (F.keep b o e) fun q => ?_, F.above⟩
  rw [hb b q] at e; cases e
theorem Kept.news {hs : List Addr} {h₀ h h' : Heap} {L : Addr} {news : List (Addr × Obj)} (k : Kept hs h h') (N : News h₀ L h news) (hn : ∀ p ∈ news, p.1 ∉ hs) : News h₀ L h' news :=
  fun p hp => ⟨k _ _ (N p hp).1 (hn p hp), (N p hp).2⟩
theorem Kept.fr0 {h₀ h h' : Heap} {L : Addr} {m : Str → Option Value} (k : Kept [] h h') (F : Fr h₀ L h m) : Fr h₀ L h' m := k.fr F (fun q => nomatch q) fun _ q => nomatch q
theorem Kept.news0 {h₀ h h' : Heap} {L : Addr} {news : List (Addr × Obj)} (k : Kept [] h h') (N : News h₀ L h news) : News h₀ L h' news := k.news N fun _ _ q => nomatch q
/-- a new object onto the ledger -/
theorem Kept.news1 {h₀ h h' : Heap} {L l : Addr} {o : Obj} {m : Str → Option Value} {news : List (Addr × Obj)} (k : Kept [] h h') (F : Fr h₀ L h m) (N : News h₀ L h news) (hl : h.get? l = none) (ho : h'.get? l = some o) : News h₀ L h' ((l, o) :: news) := by
  intro p hp
  rcases List.mem_cons.mp hp with rfl | hp
  · refine ⟨ho, fun q => ?_, ?_⟩
    · obtain ⟨oL, _, _, e, _⟩ := F.ns; dsimp only at q; rw [← q, hl] at e; cases e
    · cases q : h₀.get? l with
      | none => rfl
      | some o' => rw [F.keep _ _ q] at hl; cases hl
  · exact k.news0 N p hp
theorem news_ne {h₀ h : Heap} {L l : Addr} {news : List (Addr × Obj)} (N : News h₀ L h news) (hl : h.get? l = none) : ∀ p ∈ news, p.1 ≠ l := fun p hp q => by have := (N p hp).1; rw [q, hl] at this; cases this
theorem Kept.of_fr {hs : List Addr} {h g h' : Heap} {L : Addr} {m : Str → Option Value} (k : Kept hs h g) (F : Fr g L h' m) : Kept hs h h' := fun b o e n => F.keep b o (k b o e n)
theorem Kept.fresh {h g h' : Heap} {L : Addr} {news : List (Addr × Obj)} (k : Kept [] h g) (N : News g L h' news) : ∀ p ∈ news, h.get? p.1 = none := fun p hp => by
  cases q : h.get? p.1 with
  | none => rfl
  | some o => have := (N p hp).2.2; rw [k _ _ q (fun z => nomatch z)] at this; cases this
/-- where a call may stand: what lies below, the frame, the text's own objects, and the room -/
structure At (w : World) (A : Around) (s : Shared) (hid : List (Addr × Obj)) (D U : Nat) : Prop where
  ex : ∃ (A₀ : Around) (base : Heap) (outer : List Env) (env : Env) (h₀ : Heap) (L : Addr) (m : Str → Option Value) (p : Program) (loose : List Str) (mean : ExcName → Option Value) (mg mb : Str → Option Value),
    Below A₀ base outer h₀ ∧ Fr h₀ L s.heap m ∧ (hd.heap_39 w.params).In h₀ ∧ Top p loose mean mg mb h₀ ∧ CodeHd h₀ 81 77 ∧ News h₀ L s.heap hid ∧ A.frames = some (env :: outer) ∧ env.frame = some L ∧ env.scope.kind = .function
  hand : A.handled = none
  guards : A.guards = some []
  deep : A.depth ≤ D
  units : A.units ≤ U
theorem codeAny_le {M : Model} {A A' : Around} {c : Code} {R : Result → Shared → Prop} {s : Shared} (h : codeAny M A' c R s) (h1 : A.handled = A'.handled) (h2 : A.depth ≤ A'.depth) (h3 : A.frames = A'.frames) (h4 : A.guards = A'.guards) (h5 : A.units ≤ A'.units) : codeAny M A c R s :=
  fun Γ p hc hΓ => h Γ p hc ⟨hΓ.1.trans h1, Nat.le_trans hΓ.2.1 h2, h3 ▸ hΓ.2.2.1, h4 ▸ hΓ.2.2.2.1, Nat.le_trans hΓ.2.2.2.2 h5⟩
theorem At.le {w : World} {A : Around} {s : Shared} {hid : List (Addr × Obj)} {D U D' U' : Nat} (H : At w A s hid D U) (hd : D ≤ D') (hu : U ≤ U') : At w A s hid D' U' :=
  ⟨H.ex, H.hand, H.guards, Nat.le_trans H.deep hd, Nat.le_trans H.units hu⟩
section
variable {w : World} {A : Around} {s : Shared} {hid : List (Addr × Obj)} {D U : Nat} {R : Result → Shared → Prop}
  {name qual : Str} {params : Arguments} {body : List Stmt} {scope : Scope} {cl : List (Str × Addr)} {dV kV doc pm cdv ct : Value} {an : Option Addr} {fo : Obj} {f : Addr} {args : Args} {binds : List (Str × Value)}
theorem At.get {b : Addr} {o : Obj} (H : At w A s hid D U) (e : (hd.heap_39 w.params).lookup b = some o) : s.heap.get? b = some o := by
  obtain ⟨A₀, base, outer, env, h₀, L, m, p, loose, mean, mg, mb, B, F, X, T, C, N, hfr, hfe, hke⟩ := H.ex
  exact F.keep _ _ (X _ _ e)
/-- into a def that the heap holds -/
theorem enterX (H : At w A s hid D U) (hD : D < recursionLimit) (ho : s.heap.get? f = some fo) (hdt : fo.data = .func (fnX name qual params body scope cl dV kV doc pm an cdv ct)) (hcd : s.heap.CodeRec cdv qual)
    (hbind : BindsTo s (fnX name qual params body scope cl dV kV doc pm an cdv ct) args binds) (hloc : ∀ y ∈ binds, scope.names.lookup y.1 = some .local)
    (hcell : ∀ x ∈ scope.names, x.2 ≠ .cell)
    (h : ∀ (A₀ : Around) (base : Heap) (outer : List Env) (g h₁ : Heap) (L' : Addr) (p : Program) (loose : List Str) (mean : ExcName → Option Value) (mg mb : Str → Option Value),
      Kept (hid.map (·.1)) s.heap g → g.objs.size = s.heap.objs.size → L' = s.heap.objs.size →
      Fr g L' h₁ (fun y => binds.reverse.lookup y) → News g L' h₁ hid → Below A₀ base outer g → (hd.heap_39 w.params).In g → Top p loose mean mg mb g → CodeHd g 81 77 →
      wpAny (model Challenge.rw_pk0046_01.row.prog w) (Around.deeper { handled := none, depth := D, frames := some outer, guards := some [], units := U } (envX qual scope L' f cdv cl)) (execs body (envX qual scope L' f cdv cl))
        (fun fl s' => R (.ok (.ret (match fl with | .ret v => v | _ => .none))) s') (fun _ _ => False) { s with heap := h₁, toks := s.toks + binds.length })
    (hco : scope.isCoroutine = false := by rfl) (hgen : scope.isGenerator = false := by rfl) (hk : scope.kind = .function := by rfl) :
    codeAny (model Challenge.rw_pk0046_01.row.prog w) A (.call (.ref f) args) R s := by
  obtain ⟨⟨A₀, base, outer, env, h₀, L, m, p, loose, mean, mg, mb, B, F, X, T, C, N, hfr, hfe, hke⟩, hh, hgd, hdp, hun⟩ := H
  refine codeAny_le (A' := { handled := none, depth := D, frames := some (env :: outer), guards := some [], units := U }) ?_ hh hdp hfr hgd hun
  obtain ⟨FG, BG, st, -⟩ := groundX (R := R) (A := { handled := none, depth := D, frames := some (env :: outer), guards := some [], units := U }) B F N rfl hfe hke
  refine codeAny_call_def (fd := fnX name qual params body scope cl dV kV doc pm an cdv ct) (body := body) (binds := binds) hD ho hdt (T.nolimit.keeps F.keep) hcd rfl hbind hcell hloc (fun h₁ hns hk₁ => ?_) hco hgen hk
  refine wpAny_mono (h _ base (env :: outer) _ h₁ _ p loose mean mg mb (fun b o e n => hideAll_get _ e n) (hideAll_size _ _) rfl ⟨hns, fun b o e => hk₁ b o (of_hideAll _ e), Nat.le_of_eq (hideAll_size _ _)⟩
    (fun p hp => ⟨hk₁ _ _ (N p hp).1, Nat.ne_of_lt (Heap.lt_size (N p hp).1), hideAll_none _ (List.mem_map_of_mem hp)⟩) BG (X.keeps st) (T.keeps st) (C.keeps st)) (fun fl s' hl => hl) fun _ _ y => y.elim
/-- into a def of the text's -/
theorem enter {oc : Value} {od : Option Addr} {osl : Array (Option Value)} (H : At w A s hid D U) (hD : D < recursionLimit)
    (ho : (hd.heap_39 w.params).lookup f = some ⟨oc, od, .func (fnOf name qual params body scope dV kV doc pm an cdv ct), osl⟩) (hcd : codeIn (hd.heap_39 w.params) cdv qual = true)
    (hbind : BindsTo s (fnOf name qual params body scope dV kV doc pm an cdv ct) args binds) (hloc : ∀ y ∈ binds, scope.names.lookup y.1 = some .local)
    (hcell : ∀ x ∈ scope.names, x.2 ≠ .cell)
    (h : ∀ (A₀ : Around) (base : Heap) (outer : List Env) (g h₁ : Heap) (L' : Addr) (p : Program) (loose : List Str) (mean : ExcName → Option Value) (mg mb : Str → Option Value),
      Kept (hid.map (·.1)) s.heap g → g.objs.size = s.heap.objs.size → L' = s.heap.objs.size →
      Fr g L' h₁ (fun y => binds.reverse.lookup y) → News g L' h₁ hid → Below A₀ base outer g → (hd.heap_39 w.params).In g → Top p loose mean mg mb g → CodeHd g 81 77 →
      wpAny (model Challenge.rw_pk0046_01.row.prog w) (Around.deeper { handled := none, depth := D, frames := some outer, guards := some [], units := U } (envOf qual scope L' f cdv)) (execs body (envOf qual scope L' f cdv))
        (fun fl s' => R (.ok (.ret (match fl with | .ret v => v | _ => .none))) s') (fun _ _ => False) { s with heap := h₁, toks := s.toks + binds.length })
    (hco : scope.isCoroutine = false := by rfl) (hgen : scope.isGenerator = false := by rfl) (hk : scope.kind = .function := by rfl) :
    codeAny (model Challenge.rw_pk0046_01.row.prog w) A (.call (.ref f) args) R s := by
  have hX : (hd.heap_39 w.params).In s.heap := fun b o e => H.get e
  exact enterX H hD (hX _ _ ho) rfl (codeRec_of hX hcd) hbind hloc hcell h hco hgen hk
/-- into a lambda that the heap holds -/
theorem enterE {body : Expr} {c' : Addr} {ctv : Value} (H : At w A s hid D U) (hD : D < recursionLimit) (ho : s.heap.get? f = some (kla_obj name qual params body scope cl pm c' ctv)) (hcd : s.heap.CodeRec (.ref c') qual)
    (hbind : bindArgs (kla_fn name qual params body scope cl pm (.ref c') ctv) args = pure binds) (hloc : ∀ y ∈ binds, scope.names.lookup y.1 = some .local)
    (hcell : ∀ x ∈ scope.names, x.2 ≠ .cell)
    (h : ∀ (A₀ : Around) (base : Heap) (outer : List Env) (g h₁ : Heap) (L' : Addr) (p : Program) (loose : List Str) (mean : ExcName → Option Value) (mg mb : Str → Option Value),
      Kept (hid.map (·.1)) s.heap g → g.objs.size = s.heap.objs.size → L' = s.heap.objs.size →
      Fr g L' h₁ (fun y => binds.reverse.lookup y) → News g L' h₁ hid → Below A₀ base outer g → (hd.heap_39 w.params).In g → Top p loose mean mg mb g → CodeHd g 81 77 →
      wpAny (model Challenge.rw_pk0046_01.row.prog w) (Around.deeper { handled := none, depth := D, frames := some outer, guards := some [], units := U } (envX qual scope L' f (.ref c') cl)) (eval body (envX qual scope L' f (.ref c') cl))
        (fun v s' => R (.ok (.ret v)) s') (fun _ _ => False) { s with heap := h₁, toks := s.toks + binds.length })
    (hco : scope.isCoroutine = false := by rfl) (hgen : scope.isGenerator = false := by rfl) (hk : scope.kind = .function := by rfl) :
    codeAny (model Challenge.rw_pk0046_01.row.prog w) A (.call (.ref f) args) R s := by
  obtain ⟨⟨A₀, base, outer, env, h₀, L, m, p, loose, mean, mg, mb, B, F, X, T, C, N, hfr, hfe, hke⟩, hh, hgd, hdp, hun⟩ := H
  refine codeAny_le (A' := { handled := none, depth := D, frames := some (env :: outer), guards := some [], units := U }) ?_ hh hdp hfr hgd hun
  obtain ⟨FG, BG, st, -⟩ := groundX (R := R) (A := { handled := none, depth := D, frames := some (env :: outer), guards := some [], units := U }) B F N rfl hfe hke
  refine kla_callFunE hD ho rfl hco hgen rfl hcd ?_
  rw [hbind]
  refine wpAny_pure (wpAny_newFunctionEnv hcell hloc (fun h₁ hns hsb => ⟨((T.nolimit).keeps F.keep).fresh _ hsb, ?_⟩) hk)
  show codeAny _ _ (.expr body (envX qual scope s.heap.objs.size f (.ref c') cl)) _ _
  have hk₁ : ∀ b o, s.heap.get? b = some o → h₁.get? b = some o := fun b o e => hsb.extBut b o (Nat.ne_of_lt (Heap.lt_size e)) (Heap.get?_push_of_some _ e)
  exact kla_codeExpr (wpAny_mono (h _ base (env :: outer) _ h₁ _ p loose mean mg mb (fun b o e n => hideAll_get _ e n) (hideAll_size _ _) rfl ⟨hns, fun b o e => hk₁ b o (of_hideAll _ e), Nat.le_of_eq (hideAll_size _ _)⟩
    (fun p hp => ⟨hk₁ _ _ (N p hp).1, Nat.ne_of_lt (Heap.lt_size (N p hp).1), hideAll_none _ (List.mem_map_of_mem hp)⟩) BG (X.keeps st) (T.keeps st) (C.keeps st)) (fun v s' hl => hl) fun _ _ y => y.elim)
/-- into a def of the text's that has cells -/
theorem enterC {oc : Value} {od : Option Addr} {osl : Array (Option Value)} (H : At w A s hid D U) (hD : D < recursionLimit)
    (ho : (hd.heap_39 w.params).lookup f = some ⟨oc, od, .func (fnOf name qual params body scope dV kV doc pm an cdv ct), osl⟩) (hcd : codeIn (hd.heap_39 w.params) cdv qual = true)
    (hbind : BindsTo s (fnOf name qual params body scope dV kV doc pm an cdv ct) args binds)
    (hkind : (binds.all fun y => scope.names.lookup y.1 == some .local || scope.names.lookup y.1 == some .cell) = true)
    (hnd : ((cellsFrom 0 scope.names []).map (·.1)).Nodup)
    (h : ∀ (A₀ : Around) (base : Heap) (outer : List Env) (g h₁ : Heap) (L' : Addr) (tk : Nat) (cells : List (Addr × Obj)) (p : Program) (loose : List Str) (mean : ExcName → Option Value) (mg mb : Str → Option Value),
      Kept (hid.map (·.1)) s.heap g → g.objs.size = s.heap.objs.size → L' = s.heap.objs.size →
      Fr g L' h₁ (bindL (envOfC qual scope L' f cdv).kindOf binds fun _ => none) → News g L' h₁ (cells ++ hid) → CellsAre (bindC (envOfC qual scope L' f cdv).kindOf binds fun _ => none) (cellsFrom (L' + 1) scope.names []) cells →
      (∀ p ∈ hid, p.1 < L') → Below A₀ base outer g → (hd.heap_39 w.params).In g → Top p loose mean mg mb g → CodeHd g 81 77 →
      wpAny (model Challenge.rw_pk0046_01.row.prog w) (Around.deeper { handled := none, depth := D, frames := some outer, guards := some [], units := U } (envOfC qual scope L' f cdv)) (execs body (envOfC qual scope L' f cdv))
        (fun fl s' => R (.ok (.ret (match fl with | .ret v => v | _ => .none))) s') (fun _ _ => False) { s with heap := h₁, toks := tk })
    (hco : scope.isCoroutine = false := by rfl) (hgen : scope.isGenerator = false := by rfl) (hk : scope.kind = .function := by rfl) :
    codeAny (model Challenge.rw_pk0046_01.row.prog w) A (.call (.ref f) args) R s := by
  have hX : (hd.heap_39 w.params).In s.heap := fun b o e => H.get e
  obtain ⟨⟨A₀, base, outer, env, h₀, L, m, p, loose, mean, mg, mb, B, F, X, T, C, N, hfr, hfe, hke⟩, hh, hgd, hdp, hun⟩ := H
  refine codeAny_le (A' := { handled := none, depth := D, frames := some (env :: outer), guards := some [], units := U }) ?_ hh hdp hfr hgd hun
  obtain ⟨FG, BG, st, -⟩ := groundX (R := R) (A := { handled := none, depth := D, frames := some (env :: outer), guards := some [], units := U }) B F N rfl hfe hke
  refine codeAny_call_function hD (hX _ _ ho) rfl hco hgen rfl (codeRec_of hX hcd) (hbind _ _ _ _ ?_)
  refine wpAny_newFunctionEnv_cells hk (kindsX hkind _) fun env' he s' x => ?_
  subst he
  refine ⟨(T.nolimit.keeps F.keep).keeps x.toInCall.keep, codeAny_func ?_⟩
  obtain ⟨h₁, tk, rfl, _⟩ := x.done
  have hk₁ := x.toInCall.keep
  obtain ⟨cells, NC, Y⟩ := Cl.news (h₀ := s.heap) (Nat.le_refl _) fun n c hm => ⟨x.cell n c (lookup_of_mem_nodup (cellsFrom_names scope.names 0 (s.heap.objs.size + 1) [] [] rfl ▸ hnd) hm), x.above n c hm⟩
  refine wpAny_mono (h _ base (env :: outer) _ h₁ s.heap.objs.size tk cells p loose mean mg mb (fun b o e n => hideAll_get _ e n) (hideAll_size _ _) rfl ⟨x.toInCall.ns, fun b o e => hk₁ b o (of_hideAll _ e), Nat.le_of_eq (hideAll_size _ _)⟩ (fun p hp => ?_) Y (fun p hp => Heap.lt_size (N p hp).1) BG (X.keeps st) (T.keeps st) (C.keeps st)) (fun fl s' hl => hl) fun _ _ y => y.elim
  rcases List.mem_append.mp hp with hp | hp
  · refine ⟨(NC p hp).1, (NC p hp).2.1, ?_⟩
    cases q : (hideAll s.heap (hid.map (·.1))).get? p.1 with
    | none => rfl
    | some o => have := of_hideAll _ q; rw [(NC p hp).2.2] at this; cases this
  · exact ⟨hk₁ _ _ (N p hp).1, Nat.ne_of_lt (Heap.lt_size (N p hp).1), hideAll_none _ (List.mem_map_of_mem hp)⟩
end
/-- a list comprehension over a list of the ledger's, whose elements are walked apart -/
theorem listComp_F {prog : Program} {w : World} {A : Around} {E : Value → Shared → Prop} {s : Shared} {h₀ : Heap} {L : Addr} {m : Str → Option Value} {news : List (Addr × Obj)} {env : Env} {α : Type} {K : ItemKind α} {elt iter : Expr} {x : Str} {px : Pos} {scope : Scope} {cl : List (Str × Addr)} {pos : Pos} {Q : Value → Shared → Prop} {d : α → PyData}
    {ax : Addr} {vs : List Value} {as : List α} (F : Fr h₀ L s.heap m) (N : News h₀ L s.heap news) (hl : s.heap.IsList ax vs.toArray) (ha : AreOf K vs as) (hsz : as.length ≤ sizeLine)
    (hh : A.handled = none) (hclos : closureFor scope env = pure cl) (hcell : ∀ y ∈ scope.names, y.2 ≠ .cell) (hkind : scope.kind = .function)
    (hnames : ∀ y ∈ scope.names, y.2 = .local → scope.names.lookup y.1 = some .local) (hx : scope.names.lookup x = some .local)
    (hi : ∀ Q' : Value → Shared → Prop, Q' (.ref ax) s → wpAny (model prog w) A (eval iter env) Q' E s)
    (helt : ∀ C a v s₂ m₂ E', a ∈ as → K.is a v → Fr s.heap C s₂.heap m₂ → m₂ x = some v → wpAny (model prog w) A (eval elt (compEnvC scope cl C env)) (fun y s₃ => Carried y (d a) ∧ Keeps s₂ s₃) E' s₂)
    (hQ : ∀ D (ys : List Value) n h' tk, Fr h₀ L h' m → News h₀ L h' ((D, listOf ys.toArray n) :: news) → (∀ p ∈ news, p.1 ≠ D) → CarriedAll ys (as.map d) → Q (.ref D) { s with heap := h', toks := tk })
    (hs : ∀ x, foldedSetIterable iter env x = pure x) :
    wpAny (model prog w) A (eval (.ListComp elt [⟨.Name x px, iter, [], 0⟩] scope pos) env) Q E s := by
  refine ListComp_DCn (K := K) (pz := fun _ => true) (d := d) (h₀ := h₀) (L := L) (m := m) hh hclos hcell hkind hnames hx (hi _ ⟨news, ax, vs, as, rfl, hl, ha, hsz, F, N, ?_, ?_, ?_⟩) hs
  · intro C a v s₂ m₂ E' _ _ _ _ _ _
    exact wpAny_pure ⟨rfl, s₂.heap, s₂.toks, rfl, fun _ _ e => e⟩
  · intro C a v s₂ m₂ E' hC hmem hk _ hns hm hkeep
    exact helt C a v s₂ m₂ E' hmem hk ⟨hns, hkeep, hC⟩ hm
  · intro D ys h' tk F' N' hD hl' hp hc
    obtain ⟨⟨n, e⟩, hne⟩ := id hp
    rw [List.filter_eq_self.mpr (fun _ _ => rfl)] at hc
    refine hQ D ys n h' tk F' (fun q hq => ?_) hne hc
    rcases List.mem_cons.mp hq with rfl | hq
    · exact ⟨e, hp.ne_locals F', hD⟩
    · exact N' q hq
/-- a call's end: what the caller is told, where the heap says Pre -/
def ToldP (w : World) (f : Addr) (vs : List Value) (hid : List (Addr × Obj)) (D U : Nat) (Pre : Heap → Prop) (Out : Value → Heap → Heap → Prop) : Prop :=
  ∀ (A : Around) (s : Shared) (R : Result → Shared → Prop), At w A s hid D U → Pre s.heap →
    (∀ r h' tk', Kept (hid.map (·.1)) s.heap h' → Out r s.heap h' → R (.ok (.ret r)) { s with heap := h', toks := tk' }) →
    codeAny (model Challenge.rw_pk0046_01.row.prog w) A (.call (.ref f) ⟨vs, []⟩) R s
abbrev Told (w : World) (f : Addr) (vs : List Value) (hid : List (Addr × Obj)) (D U : Nat) (Out : Value → Heap → Heap → Prop) : Prop := ToldP w f vs hid D U (fun _ => True) Out
theorem ToldP.call {w : World} {f : Addr} {vs : List Value} {hid : List (Addr × Obj)} {D U : Nat} {Pre : Heap → Prop} {Out : Value → Heap → Heap → Prop} (T : ToldP w f vs hid D U Pre Out) {A : Around} {s : Shared} {Q E : Value → Shared → Prop} (H : At w A s hid D U) (hp : Pre s.heap)
    (h : ∀ r h' tk', Kept (hid.map (·.1)) s.heap h' → Out r s.heap h' → Q r { s with heap := h', toks := tk' }) : wpAny (model Challenge.rw_pk0046_01.row.prog w) A (PySem.call (.ref f) vs) Q E s :=
  wpAny_call (T A s _ H hp h)
/-- a while loop, the turn's end under another name (the turn's terms stay small) -/
theorem ksw_whileJ {prog : Program} {w : World} {A : Around} {E : Value → Shared → Prop} {Q : Flow → Shared → Prop} {s : Shared} {env : Env} {h₀ : Heap} {L : Addr} {σ : Type} {test : Expr} {body : List Stmt} {pos : Pos} {m₀ : Str → Option Value}
    (Led : σ → List (Addr × Obj)) (ps : σ → List (Str × Value)) (Facts : σ → Prop) (stored : List Str) (P : σ → Prop) (μ : σ → Nat) (c₀ : σ)
    (F : Fr h₀ L s.heap m₀) (N : News h₀ L s.heap (Led c₀)) (hf : Facts c₀) (hk : ∀ p ∈ ps c₀, m₀ p.1 = some p.2) (hp : P c₀)
    (turn : ∀ (c : σ) (J : Flow → Shared → Prop), (∀ f s₂, KswPost h₀ L s Led ps Facts stored m₀ P μ Q c f s₂ → J f s₂) → ∀ (u : Str → Option Value) h tk, Facts c → P c → Fr h₀ L h (kstB (fun z => if stored.contains z then u z else m₀ z) (ps c)) → News h₀ L h (Led c) →
      wpAny (model prog w) A (isTrue test env (eval test env)) (fun b s₂ => if b = true then wpAny (model prog w) A (execs body env) J E s₂ else Q .next s₂) E { s with heap := h, toks := tk })
    (hE : PassesOwn (model prog w) A env E := by passes_own) :
    wpAny (model prog w) A (exec (.While test body [] pos) env) Q E s :=
  ksw_while Led ps Facts stored P μ c₀ F N hf hk hp (fun c u h tk => turn c _ (fun _ _ x => x) u h tk) hE
theorem codeRec_kept {hid : List (Addr × Obj)} {h h' : Heap} {cd : Value} {q : Str} (hC : h.CodeRec cd q) (hN : ∀ p ∈ hid, h.get? p.1 = some p.2 ∧ ∀ vs, p.2.data ≠ .fields vs) (k : Kept (hid.map (·.1)) h h') : h'.CodeRec cd q := by
  obtain ⟨c, oc, vs, t, e1, e2, e3, e4⟩ := hC
  refine ⟨c, oc, vs, t, e1, k _ _ e2 fun hm => ?_, e3, e4⟩
  obtain ⟨p, hp, rfl⟩ := List.mem_map.mp hm
  have := (hN p hp).1
  rw [e2] at this
  cases this
  exact (hN p hp).2 vs e3
theorem News.re {h₀ h h' : Heap} {L : Addr} {news news' : List (Addr × Obj)} (N : News h₀ L h news) (hm : news'.map (·.1) = news.map (·.1)) (hg : ∀ p ∈ news', h'.get? p.1 = some p.2) : News h₀ L h' news' := fun p hp => by
  have hq : p.1 ∈ news.map (·.1) := hm ▸ List.mem_map_of_mem hp
  obtain ⟨q, hq1, hq2⟩ := List.mem_map.mp hq
  exact ⟨hg p hp, hq2 ▸ (N q hq1).2.1, hq2 ▸ (N q hq1).2.2⟩
end Mine
end
section
open PySem PySem.W PyProof.Rows PySem.Calls
namespace Mine
set_option pp.deepTerms false
set_option pp.deepTerms.threshold 8
set_option pp.maxSteps 3000
structure PSt where
  c : PS
  tp : Tok
  vs : List Value
  n : Nat
theorem parse_end {g h' : Heap} {L l : Addr} {m' m₀ : Str → Option Value} {own : List (Addr × Obj)} {s₁ : Shared} {tk : Nat} {c c' : PS} {n n' : Nat} {pre : List Int} {vs' : List Value} {its : Array Value} {tp' : Tok}
    (F : Fr g L h' m') (N : News g L h' ((l, listOf its n') :: own)) (hP : c = (pre.map Int.toNat).foldl pstep pinit) (hc : c' = pstep c n) (h1 : c.part.length ≤ pre.length) (h2 : c.res.length ≤ pre.length) (h3 : ∀ q ∈ c.res, q.length ≤ pre.length) (hv : StrsAre vs' (c'.res.map S)) (hi : its = vs'.toArray)
    (m1 : ∃ y, m' (Str.ofString "part") = some (.str y tp') ∧ y = S c'.part) (m2 : m' (Str.ofString "escape") = some (.bool c'.esc)) (m3 : m' (Str.ofString "quote") = some (.bool c'.quo))
    (mr : ∀ z, z ≠ Str.ofString "cur" → z ≠ Str.ofString "part" → z ≠ Str.ofString "escape" → z ≠ Str.ofString "quote" → m' z = m₀ z) :
    InvEndN g L (KstS (fun c : PSt => [(l, listOf c.vs.toArray c.n)]) (fun c => [(Str.ofString "part", .str (S c.c.part) c.tp), (Str.ofString "escape", .bool c.c.esc), (Str.ofString "quote", .bool c.c.quo)]) (fun c => StrsAre c.vs (c.c.res.map S)) (Str.ofString "cur") [] m₀
      (fun pre c => c.c = (pre.map Int.toNat).foldl pstep pinit ∧ c.c.part.length ≤ pre.length ∧ c.c.res.length ≤ pre.length ∧ ∀ q ∈ c.c.res, q.length ≤ pre.length) (pre ++ [(n : Int)])) own [l] s₁ { s₁ with heap := h', toks := tk } := by
  obtain ⟨y, m1, rfl⟩ := m1
  subst hi
  refine kst_end (σ := PSt) ⟨c', tp', vs', n'⟩ F N (fun p hp => ?_) (fun p hp => .tail _ hp) rfl hv ?_ (fun z hz hp _ => ?_) ⟨foldl_snoc_eq hP hc, ?_, ?_, ?_⟩
  · rw [List.mem_singleton.mp hp]; exact .head _
  · exact List.forall_mem_cons.mpr ⟨m1, List.forall_mem_cons.mpr ⟨m2, List.forall_mem_cons.mpr ⟨m3, List.forall_mem_nil _⟩⟩⟩
  · exact mr z hz (hp _ (.head _)) (hp _ (.tail _ (.head _))) (hp _ (.tail _ (.tail _ (.head _))))
  · have := pstep_part c n; subst hc; simp only [List.length_append, List.length_singleton]; omega
  · have := pstep_res c n; subst hc; simp only [List.length_append, List.length_singleton]; omega
  · have := pstep_all c n _ h1 h3; subst hc; simp only [List.length_append, List.length_singleton]; exact this
set_option maxRecDepth 100000 in
set_option maxHeartbeats 8000000 in
theorem parse_told {w : World} {x : Str} {t : Tok} (hx : x.length < 1000) : Told w 68 [.str x t] [] 800 8000 (fun r h h' => ∃ l vs n, r = .ref l ∧ h.get? l = none ∧ h'.get? l = some (listOf (List.toArray vs) n) ∧ StrsAre vs ((parseL x.cps.toList).map S)) := by
  w_top off
  intro A s R H _ hret
  have hk : (hd.heap_39 w.params).In s.heap → True := fun _ => trivial
  revert hk
  k_fill
  intro _
  ((k_dflt (refine' enter ‹At _ _ _ _ _ _› ?kd ?k6 ?k7 ?k9 ?kB ?c5 ?_ ?c2 ?c3 ?c4; (case kd => decide); (case k6 => k_is); (case k7 => k_is); (case k9 => exact BindsTo.of_eq rfl); (case c5 => decide); (case kB => exact locs rfl); (case c2 => exact rfl); (case c3 => exact rfl); (case c4 => exact rfl))))
  intro A₀ base outer g h₁ L p loose mean mg mb hkept hgs hL F N B X T C
  k_fold
  (repeat ((fail_if_success (with_reducible show wpAny _ _ (exec (Stmt.For _ _ _ _ _) _) _ _ _)); ((first | (k_unfold; (try dsimp only)) | walk1 | (dsimp only; walk1) | (leave1; (try dsimp only))))))
  (rename Fr _ _ _ _ => lF)
  (rename News _ _ _ _ => lN)
  with_unfolding_all refine' For_invVF lF rfl rfl ?_
  walk1
  with_unfolding_all refine' KStt.kst_text (σ := PSt) (fun c => [(_, listOf c.vs.toArray c.n)]) (fun c => [(Str.ofString "part", .str (S c.c.part) c.tp), (Str.ofString "escape", .bool c.c.esc), (Str.ofString "quote", .bool c.c.quo)]) (fun c => StrsAre c.vs (c.c.res.map S)) [] (fun pre c => c.c = (pre.map Int.toNat).foldl pstep pinit ∧ c.c.part.length ≤ pre.length ∧ c.c.res.length ≤ pre.length ∧ ∀ q ∈ c.c.res, q.length ≤ pre.length) ⟨pinit, ?tp0, [], 0⟩ rfl lF lN ?hf ?hk ?hp ?turn ?done
  case hk => exact List.forall_mem_cons.mpr ⟨by with_unfolding_all rfl, List.forall_mem_cons.mpr ⟨by with_unfolding_all rfl, List.forall_mem_cons.mpr ⟨by with_unfolding_all rfl, List.forall_mem_nil _⟩⟩⟩
  case hf => exact .nil
  case hp => exact ⟨rfl, Nat.le_refl _, Nat.le_refl _, fun _ h => nomatch h⟩
  case turn =>
    rintro ⟨⟨res, part, esc, quo⟩, tp, vs, nn⟩ pre post n tn u h tk own hcodes hoff hfacts hP lF' lN'
    clear lF lN
    dsimp only at lF' lN' hfacts hP ⊢
    obtain ⟨hP, hp1, hp2, hp3⟩ := hP
    have hpl := codes_lt hcodes
    have hsz := sz_S (Nat.le_trans hp1 (show pre.length ≤ 1000 by omega))
    have hsz2 := sz_vs hfacts (Nat.le_trans hp2 (show pre.length ≤ 1000 by omega))
    cases esc <;> cases quo
    all_goals (repeat' ((fail_if_success (with_reducible show InvPostN _ _ _ _ _ _ _ _ _)); (fail_if_success (with_reducible show InvEndN _ _ _ _ _ _ _)); ((first | (k_unfold; (try dsimp only)) | walk1 | (dsimp only; walk1) | (leave1; (try dsimp only))))))
    all_goals (try have q44 : n = 44 := sgnT (k := 44) (x := Str.ofString ",") (by decide) (by with_reducible assumption))
    all_goals (try have q44 : n ≠ 44 := sgnF (k := 44) (x := Str.ofString ",") (by decide) (by with_reducible assumption))
    all_goals (try have q34 : n = 34 := sgnT (k := 34) (x := Str.ofString "\"") (by decide) (by with_reducible assumption))
    all_goals (try have q34 : n ≠ 34 := sgnF (k := 34) (x := Str.ofString "\"") (by decide) (by with_reducible assumption))
    all_goals (try have q92 : n = 92 := sgnT (k := 92) (x := Str.ofString "\\") (by decide) (by with_reducible assumption))
    all_goals (try have q92 : n ≠ 92 := sgnF (k := 92) (x := Str.ofString "\\") (by decide) (by with_reducible assumption))
    · exact parse_end (c' := ⟨res ++ [part], [], false, false⟩) (vs' := vs ++ [.str (S part) tp]) ‹_› (N := by assumption) hP (by simp [pstep, q44]) hp1 hp2 hp3 (by rw [List.map_append]; exact hfacts.append' (.cons _ _ .nil)) (by simp) ⟨_, by with_unfolding_all rfl, rfl⟩ (by with_unfolding_all rfl) (by with_unfolding_all rfl) (by intro z h1 h2 h3 h4; simp [h1, h2, h3, h4, kstB])
    · exact parse_end (c' := ⟨res, part ++ [n], false, true⟩) (vs' := vs) ‹_› (N := by assumption) hP (by simp [pstep, q44, q34]) hp1 hp2 hp3 (hfacts) (rfl) ⟨_, by with_unfolding_all rfl, S_snoc _ _⟩ (by with_unfolding_all rfl) (by with_unfolding_all rfl) (by intro z h1 h2 h3 h4; simp [h1, h2, h3, h4, kstB])
    · exact parse_end (c' := ⟨res, part ++ [n], false, false⟩) (vs' := vs) ‹_› (N := by assumption) hP (by simp [pstep, q44, q34]) hp1 hp2 hp3 (hfacts) (rfl) ⟨_, by with_unfolding_all rfl, S_snoc _ _⟩ (by with_unfolding_all rfl) (by with_unfolding_all rfl) (by intro z h1 h2 h3 h4; simp [h1, h2, h3, h4, kstB])
    · exact parse_end (c' := ⟨res, part, true, true⟩) (vs' := vs) ‹_› (N := by assumption) hP (by simp [pstep, q92]) hp1 hp2 hp3 (hfacts) (rfl) ⟨_, by with_unfolding_all rfl, rfl⟩ (by with_unfolding_all rfl) (by with_unfolding_all rfl) (by intro z h1 h2 h3 h4; simp [h1, h2, h3, h4, kstB])
    · exact parse_end (c' := ⟨res, part ++ [n], false, false⟩) (vs' := vs) ‹_› (N := by assumption) hP (by simp [pstep, q92, q34]) hp1 hp2 hp3 (hfacts) (rfl) ⟨_, by with_unfolding_all rfl, S_snoc _ _⟩ (by with_unfolding_all rfl) (by with_unfolding_all rfl) (by intro z h1 h2 h3 h4; simp [h1, h2, h3, h4, kstB])
    · exact parse_end (c' := ⟨res, part ++ [n], false, true⟩) (vs' := vs) ‹_› (N := by assumption) hP (by simp [pstep, q92, q34]) hp1 hp2 hp3 (hfacts) (rfl) ⟨_, by with_unfolding_all rfl, S_snoc _ _⟩ (by with_unfolding_all rfl) (by with_unfolding_all rfl) (by intro z h1 h2 h3 h4; simp [h1, h2, h3, h4, kstB])
    · exact parse_end (c' := ⟨res, part ++ [n], false, false⟩) (vs' := vs) ‹_› (N := by assumption) hP (by simp [pstep]) hp1 hp2 hp3 (hfacts) (rfl) ⟨_, by with_unfolding_all rfl, S_snoc _ _⟩ (by with_unfolding_all rfl) (by with_unfolding_all rfl) (by intro z h1 h2 h3 h4; simp [h1, h2, h3, h4, kstB])
    · exact parse_end (c' := ⟨res, part ++ [n], false, true⟩) (vs' := vs) ‹_› (N := by assumption) hP (by simp [pstep]) hp1 hp2 hp3 (hfacts) (rfl) ⟨_, by with_unfolding_all rfl, S_snoc _ _⟩ (by with_unfolding_all rfl) (by with_unfolding_all rfl) (by intro z h1 h2 h3 h4; simp [h1, h2, h3, h4, kstB])
  case done =>
    rintro ⟨⟨res, part, esc, quo⟩, tp, vs, nn⟩ u h tk hfacts hP lF' lN'
    clear lF lN
    dsimp only at lF' lN' hfacts hP ⊢
    obtain ⟨hP, hp1, hp2, hp3⟩ := hP
    rw [KStt.codes_length] at hp1 hp2 hp3
    rw [codes_toNat] at hP
    have hsz := sz_S (Nat.le_trans hp1 (show x.length ≤ 1000 by omega))
    have hsz2 := sz_vs hfacts (Nat.le_trans hp2 (show x.length ≤ 1000 by omega))
    (try k_unmd)
    (try k_fold)
    (repeat' ((fail_if_success (with_reducible show wpAny _ _ (exec (Stmt.Return _ _) _) _ _ _)); ((first | (k_unfold; (try dsimp only)) | walk1 | (dsimp only; walk1) | (leave1; (try dsimp only))))))
    · have hpart := S_ne ‹_›
      (rename Fr _ _ _ _ => lF2)
      (rename News _ _ _ _ => lN2)
      have hfacts2 : StrsAre (vs ++ [.str (S part) tp]) ((res ++ [part]).map S) := by rw [List.map_append]; exact hfacts.append' (.cons _ _ .nil)
      rw [List.push_toArray] at lN2
      refine wpAny_Return_some ?_
      with_unfolding_all refine' listComp_F (K := ItemKind.str) (d := fun a => .str (Txt.strip a)) lF2 lN2 (News.isList lN2 (.head _)) hfacts2.areOf (by simp only [List.length_map, List.length_append]; rw [sizeLine_eq]; simp only [List.length_singleton]; omega) rfl rfl (by decide) rfl (by decide) rfl (fun Q' hQ' => ?_) ?_ ?_ (fun _ => rfl)
      · walk1
        exact hQ'
      · rintro C a v s₂ m₂ E' ha ⟨tv, rfl⟩ F₂ hm
        have hsa : a.length ≤ 1000 := by
          obtain ⟨a, ha', rfl⟩ := List.mem_map.mp ha
          exact sz_S (by rcases List.mem_append.mp ha' with q | q; exact Nat.le_trans (hp3 a q) (by omega); rw [List.mem_singleton.mp q]; omega)
        (first | (k_unfold; (try dsimp only)) | walk1 | (dsimp only; walk1) | (leave1; (try dsimp only)))
        (first | (k_unfold; (try dsimp only)) | walk1 | (dsimp only; walk1) | (leave1; (try dsimp only)))
        refine ldVarK F₂.ns hm ?_
        (repeat ((fail_if_success (with_reducible show _ ∧ Keeps _ _)); ((first | (k_unfold; (try dsimp only)) | walk1 | (dsimp only; walk1) | (leave1; (try dsimp only))))))
        exact ⟨.str _ _, _, _, rfl, fun _ _ e => e⟩
      · intro D ys n h' tk' F' N' hne hc
        exact hret (.ref D) h' tk' (hkept.of_fr F') ⟨D, ys, n, rfl, hkept.fresh N' _ (.head _), (N' _ (.head _)).1, by simpa [parseL, ← hP, pfin, hpart, Function.comp_def, strip_S] using hc.strsOf⟩
    · have hpart := S_eq0 ‹_›
      refine wpAny_Return_some ?_
      with_unfolding_all refine' listComp_F (K := ItemKind.str) (d := fun a => .str (Txt.strip a)) lF' lN' (News.isList lN' (.head _)) hfacts.areOf (by simp only [List.length_map]; rw [sizeLine_eq]; omega) rfl rfl (by decide) rfl (by decide) rfl (fun Q' hQ' => ?_) ?_ ?_ (fun _ => rfl)
      · walk1
        exact hQ'
      · rintro C a v s₂ m₂ E' ha ⟨tv, rfl⟩ F₂ hm
        have hsa : a.length ≤ 1000 := by
          obtain ⟨a, ha', rfl⟩ := List.mem_map.mp ha
          exact sz_S (Nat.le_trans (hp3 a ha') (by omega))
        (first | (k_unfold; (try dsimp only)) | walk1 | (dsimp only; walk1) | (leave1; (try dsimp only)))
        (first | (k_unfold; (try dsimp only)) | walk1 | (dsimp only; walk1) | (leave1; (try dsimp only)))
        refine ldVarK F₂.ns hm ?_
        (repeat ((fail_if_success (with_reducible show _ ∧ Keeps _ _)); ((first | (k_unfold; (try dsimp only)) | walk1 | (dsimp only; walk1) | (leave1; (try dsimp only))))))
        exact ⟨.str _ _, _, _, rfl, fun _ _ e => e⟩
      · intro D ys n h' tk' F' N' hne hc
        exact hret (.ref D) h' tk' (hkept.of_fr F') ⟨D, ys, n, rfl, hkept.fresh N' _ (.head _), (N' _ (.head _)).1, by simpa [parseL, ← hP, pfin, hpart, Function.comp_def, strip_S] using hc.strsOf⟩
end Mine
end
section
open PySem PySem.W PyProof.Rows PySem.Calls
namespace Mine
abbrev lamParams : Arguments := { posonlyargs := [], args := [{ arg := Str.ofString "size", annotation := none, pos := ⟨85, 23, 85, 27⟩ }], vararg := none, kwonlyargs := [], kw_defaults := [], kwarg := none, defaults := [] }
abbrev lamBody : Expr := ((Expr.Constant (Const.str (Str.ofString "")) 0 ⟨85, 29, 85, 31⟩).Attribute (Str.ofString "join") ⟨85, 29, 85, 36⟩).Call
    [(((Expr.Name (Str.ofString "signs") ⟨85, 38, 85, 43⟩).Attribute (Str.ofString "pop") ⟨85, 38, 85, 47⟩).Call [Expr.Constant (Const.int 0) 0 ⟨85, 48, 85, 49⟩] [] ⟨85, 38, 85, 50⟩).ListComp
      [{ target := Expr.Name (Str.ofString "sign") ⟨85, 55, 85, 59⟩,
         iter := (Expr.Name (Str.ofString "signs") ⟨85, 63, 85, 68⟩).Subscript (Expr.Slice none (some (Expr.Name (Str.ofString "size") ⟨85, 70, 85, 74⟩)) none ⟨85, 69, 85, 74⟩) ⟨85, 63, 85, 75⟩,
         ifs := [], is_async := 0 }]
      { kind := ScopeKind.function, names := [(Str.ofString ".0", NameKind.local), (Str.ofString "sign", NameKind.local), (Str.ofString "signs", NameKind.free)], isGenerator := false, isCoroutine := false }
      ⟨85, 37, 85, 76⟩] [] ⟨85, 29, 85, 77⟩
abbrev lamScope : Scope := { kind := ScopeKind.function, names := [(Str.ofString "size", NameKind.local), (Str.ofString "signs", NameKind.free)], isGenerator := false, isCoroutine := false, more := [(Str.ofString "fast", Const.str (Str.ofString "size")), (Str.ofString "fast", Const.str (Str.ofString "sign")), (Str.ofString "fast", Const.str (Str.ofString "signs"))] }
abbrev lamQual : Str := (Str.ofString "_law_lexer" ++ ".<locals>.") ++ Str.ofString "<lambda>"
abbrev wsStr : Str := Str.ofString "\n\t\u000d "
/-- where a lexer's parts lie -/
structure LexA where
  x : Addr
  d : Addr
  pb : Addr
  tx : Addr
  td : Addr
  tpb : Addr
  f : Addr
  c : Addr
  ce : Addr
  sg : Addr
  k1 : Tok
  k2 : Tok
  k3 : Tok
  k4 : Tok
  j1 : Tok
  j2 : Tok
  j3 : Tok
  j4 : Tok
  j5 : Tok
  tw : Tok
  jw : Tok
  ji : Tok
  pm : Value
  ct : Value
  oce : Obj
  hoce : oce.data = .cell (some (.ref sg))
abbrev lamObj (a : LexA) : Obj := kla_obj (Str.ofString "<lambda>") lamQual lamParams lamBody lamScope [(Str.ofString "signs", a.ce)] a.pm a.c a.ct
/-- what a lexer's parts hold: the line, the signs left -/
abbrev lexLed (w : World) (a : LexA) (ln : Int) (tl : Tok) (vs : List Value) (n : Nat) : List (Addr × Obj) :=
  [(a.x, instObj 59 a.d),
   (a.d, dictOf [{ hash := PyData.keyHash w.params (Str.ofString "lineno"), key := .str (Str.ofString "lineno") a.k1, val := .int ln tl },
                { hash := PyData.keyHash w.params (Str.ofString "instream"), key := .str (Str.ofString "instream") a.k2, val := .ref a.tx },
                { hash := PyData.keyHash w.params (Str.ofString "whitespace"), key := .str (Str.ofString "whitespace") a.k3, val := .str wsStr a.tw },
                { hash := PyData.keyHash w.params (Str.ofString "pushback"), key := .str (Str.ofString "pushback") a.k4, val := .ref a.pb }] 4),
   (a.pb, listOf #[] 0),
   (a.tx, instObj 59 a.td),
   (a.td, dictOf [{ hash := PyData.keyHash w.params (Str.ofString "lineno"), key := .str (Str.ofString "lineno") a.j1, val := .int 1 a.ji },
                { hash := PyData.keyHash w.params (Str.ofString "instream"), key := .str (Str.ofString "instream") a.j2, val := .none },
                { hash := PyData.keyHash w.params (Str.ofString "whitespace"), key := .str (Str.ofString "whitespace") a.j3, val := .str wsStr a.jw },
                { hash := PyData.keyHash w.params (Str.ofString "pushback"), key := .str (Str.ofString "pushback") a.j4, val := .ref a.tpb },
                { hash := PyData.keyHash w.params (Str.ofString "read"), key := .str (Str.ofString "read") a.j5, val := .ref a.f }] 5),
   (a.f, kla_obj (Str.ofString "<lambda>") lamQual lamParams lamBody lamScope [(Str.ofString "signs", a.ce)] a.pm a.c a.ct),
   (a.ce, a.oce),
   (a.sg, listOf vs.toArray n)]
theorem lex_f {w : World} {a : LexA} {ln : Int} {tl : Tok} {vs : List Value} {n : Nat} : (a.f, lamObj a) ∈ lexLed w a ln tl vs n := .tail _ (.tail _ (.tail _ (.tail _ (.tail _ (.head _)))))
theorem lex_two {w : World} {a : LexA} {ln : Int} {tl : Tok} {vs : List Value} {n : Nat} : ∀ q ∈ [(a.ce, a.oce), (a.sg, listOf vs.toArray n)], q ∈ lexLed w a ln tl vs n :=
  List.forall_mem_cons.mpr ⟨.tail _ (.tail _ (.tail _ (.tail _ (.tail _ (.tail _ (.head _)))))), List.forall_mem_cons.mpr ⟨.tail _ (.tail _ (.tail _ (.tail _ (.tail _ (.tail _ (.tail _ (.head _))))))), List.forall_mem_nil _⟩⟩
/-- a lexer's parts were laid one behind the other -/
structure LexOk (a : LexA) : Prop where
  o1 : a.sg < a.ce
  o2 : a.ce < a.td
  o3 : a.td < a.tx
  o4 : a.tx < a.f
  o5 : a.f < a.d
  o6 : a.d < a.x
  o7 : a.x < a.pb
theorem lex_data {w : World} {a : LexA} {ln : Int} {tl : Tok} {vs : List Value} {n : Nat} : ∀ p ∈ lexLed w a ln tl vs n, ∀ vs, p.2.data ≠ .fields vs := by
  intro p hp vs
  simp only [lexLed, List.mem_cons, List.not_mem_nil, or_false] at hp
  rcases hp with rfl | rfl | rfl | rfl | rfl | rfl | rfl | rfl <;> intro h <;> first | cases h | (have := a.hoce; dsimp only at h; rw [this] at h; cases h)
end Mine
end
section
open PySem PySem.W PyProof.Rows PySem.Calls
namespace Mine
set_option pp.deepTerms false
set_option pp.deepTerms.threshold 8
set_option pp.maxSteps 3000
set_option maxRecDepth 100000 in
set_option maxHeartbeats 8000000 in
theorem lam0 {w : World} {a : LexA} {n : Nat} {t : Tok} (ok : LexOk a) : ToldP w a.f [.int 1 t] [(a.ce, a.oce), (a.sg, listOf #[] n)] 850 8500 (fun h => h.get? a.f = some (lamObj a) ∧ h.CodeRec (.ref a.c) lamQual)
    (fun r h h' => (∃ t', r = .str (S []) t') ∧ h'.get? a.ce = some a.oce ∧ h'.get? a.sg = some (listOf #[] n)) := by
  w_top off
  intro A s R H ⟨hf, hcd⟩ hret
  have hk : (hd.heap_39 w.params).In s.heap → True := fun _ => trivial
  revert hk
  k_fill
  intro _
  ((k_dflt (refine' enterE ‹At _ _ _ _ _ _› ?kd ?k6 ?k7 ?k9 ?kB ?c5 ?_ ?c2 ?c3 ?c4; (case kd => decide); (case k6 => assumption); (case k7 => assumption); (case k9 => exact rfl); (case c5 => decide); (case kB => exact locs rfl); (case c2 => exact rfl); (case c3 => exact rfl); (case c4 => exact rfl))))
  intro A₀ base outer g h₁ L p loose mean mg mb hkept hgs hL F N B X T C
  have o1 := ltN ok.o1
  have hoce := a.hoce
  (try k_unmd)
  (try k_fold)
  (repeat ((fail_if_success (with_reducible show wpAny _ _ (eval (Expr.ListComp _ _ _ _) _) _ _ _)); ((first | (k_unfold; (try dsimp only)) | walk1 | (dsimp only; walk1) | (leave1; (try dsimp only))))))
  k_dflt (refine LCg.ListComp_U (F₀ := by k_asm) (by with_unfolding_all rfl) (by decide) (by rfl) (by decide) (by rfl) ?_)
  (repeat ((fail_if_success (with_reducible show LCg.CompSrc _ _ _ _ _ _ _ _ _ _ _ _ _ _)); ((first | (k_unfold; (try dsimp only)) | walk1 | (dsimp only; walk1) | (leave1; (try dsimp only))))))
  k_dflt (refine LCg.CompSrc.ledger (by rfl) (by k_asm) (by k_asm) (by k_mem) (by exact Nat.le_of_ble_eq_true rfl) ?_; intro g'; lcg_lit)
  (with_unfolding_all refine LCg.CompRest.zero ?_)
  repeat (first | (k_unfold; (try dsimp only)) | walk1 | (dsimp only; walk1) | (leave1; (try dsimp only)))
  (rename News _ _ _ _ => lN)
  (rename Fr _ _ _ _ => lF)
  exact hret _ _ _ (hkept.of_fr lF) ⟨⟨_, rfl⟩, (lN (a.ce, a.oce) (by k_mem)).1, (lN (a.sg, listOf #[] n) (by k_mem)).1⟩
set_option maxRecDepth 100000 in
set_option maxHeartbeats 8000000 in
theorem lam1 {w : World} {a : LexA} {n : Nat} {t : Tok} {c0 : Nat} {tc : Tok} {vs : List Value} (hvs : vs.length ≤ 1000) (ok : LexOk a) : ToldP w a.f [.int 1 t] [(a.ce, a.oce), (a.sg, listOf (.str ⟨#[c0]⟩ tc :: vs).toArray n)] 850 8500 (fun h => h.get? a.f = some (lamObj a) ∧ h.CodeRec (.ref a.c) lamQual)
    (fun r h h' => (∃ t', r = .str ⟨#[c0]⟩ t') ∧ h'.get? a.ce = some a.oce ∧ h'.get? a.sg = some (listOf vs.toArray (n + 1))) := by
  w_top off
  intro A s R H ⟨hf, hcd⟩ hret
  have hk : (hd.heap_39 w.params).In s.heap → True := fun _ => trivial
  revert hk
  k_fill
  intro _
  ((k_dflt (refine' enterE ‹At _ _ _ _ _ _› ?kd ?k6 ?k7 ?k9 ?kB ?c5 ?_ ?c2 ?c3 ?c4; (case kd => decide); (case k6 => assumption); (case k7 => assumption); (case k9 => exact rfl); (case c5 => decide); (case kB => exact locs rfl); (case c2 => exact rfl); (case c3 => exact rfl); (case c4 => exact rfl))))
  intro A₀ base outer g h₁ L p loose mean mg mb hkept hgs hL F N B X T C
  have o1 := ltN ok.o1
  have hoce := a.hoce
  (try k_unmd)
  (try k_fold)
  (repeat ((fail_if_success (with_reducible show wpAny _ _ (eval (Expr.ListComp _ _ _ _) _) _ _ _)); ((first | (k_unfold; (try dsimp only)) | walk1 | (dsimp only; walk1) | (leave1; (try dsimp only))))))
  k_dflt (refine LCg.ListComp_U (F₀ := by k_asm) (by with_unfolding_all rfl) (by decide) (by rfl) (by decide) (by rfl) ?_)
  (repeat ((fail_if_success (with_reducible show LCg.CompSrc _ _ _ _ _ _ _ _ _ _ _ _ _ _)); ((first | (k_unfold; (try dsimp only)) | walk1 | (dsimp only; walk1) | (leave1; (try dsimp only))))))
  k_dflt (refine LCg.CompSrc.ledger (by rfl) (by k_asm) (by k_asm) (by k_mem) (by exact Nat.le_of_ble_eq_true rfl) ?_; intro g'; lcg_lit)
  (with_unfolding_all (refine LCg.CompRest.succ ?_; intro v' I' oI' C' oC' D' m' h' tk' E' hv' hC' hx' F' N' off' ne'; lcg_open hv'; (try simp only [LCg.Off3, and_true] at off')))
  iterate 8 (first | (k_unfold; (try dsimp only)) | walk1 | (dsimp only; walk1) | (leave1; (try dsimp only)))
  k_dflt (refine' kl_popAt (its := (.str ⟨#[c0]⟩ tc :: vs).toArray) (p := []) (q := vs) (y := .str ⟨#[c0]⟩ tc) (k := 0) ?F ?N rfl ?k rfl ?U ?z ?_; (case F => k_asm); (case N => k_asm); (case U => k_upd); (case k => exact seq0 vs.length); (case z => (show vs.length + 1 ≤ sizeLine; rw [sizeLine_eq]; omega)))
  kl_rest
  iterate 5 (first | (k_unfold; (try dsimp only)) | walk1 | (dsimp only; walk1) | (leave1; (try dsimp only)))
  (rename News _ _ _ _ => lN)
  (rename Fr _ _ _ _ => lF)
  have hl := News.isList lN (.head _)
  with_unfolding_all refine join_list hl (ys := [⟨#[c0]⟩]) (.cons _ _ .nil) (by show 1 + 0 + 1 * 0 ≤ 16777216; decide) fun t' k => ?_
  exact hret _ _ _ (hkept.of_fr lF) ⟨⟨_, rfl⟩, (lN (a.ce, a.oce) (by k_mem)).1, (lN (a.sg, listOf vs.toArray (n + 1)) (by k_mem)).1⟩
end Mine
end
section
open PySem PySem.W PyProof.Rows PySem.Calls
namespace Mine
set_option pp.deepTerms false
set_option pp.deepTerms.threshold 8
set_option pp.maxSteps 3000
theorem At.of {w : World} {A : Around} {s : Shared} {hid news : List (Addr × Obj)} {D U : Nat} {A₀ : Around} {base : Heap} {outer : List Env} {env : Env} {h₀ : Heap} {L : Addr} {m : Str → Option Value} {p : Program} {loose : List Str} {mean : ExcName → Option Value} {mg mb : Str → Option Value}
    (B : Below A₀ base outer h₀) (F : Fr h₀ L s.heap m) (X : (hd.heap_39 w.params).In h₀) (T : Top p loose mean mg mb h₀) (C : CodeHd h₀ 81 77) (N : News h₀ L s.heap news) (hs : ∀ q ∈ hid, q ∈ news) (h1 : A.frames = some (env :: outer)) (h2 : env.frame = some L) (h3 : env.scope.kind = .function)
    (h4 : A.handled = none) (h5 : A.guards = some []) (h6 : A.depth ≤ D) (h7 : A.units ≤ U) : At w A s hid D U :=
  ⟨⟨A₀, base, outer, env, h₀, L, m, p, loose, mean, mg, mb, B, F, X, T, C, fun q hq => N q (hs q hq), h1, h2, h3⟩, h4, h5, h6, h7⟩
theorem At.news {w : World} {A : Around} {s : Shared} {hid : List (Addr × Obj)} {D U : Nat} (H : At w A s hid D U) : ∀ p ∈ hid, s.heap.get? p.1 = some p.2 := by
  obtain ⟨A₀, base, outer, env, h₀, L, m, p, loose, mean, mg, mb, B, F, X, T, C, N, hfr, hfe, hke⟩ := H.ex
  exact fun p hp => (N p hp).1
theorem lex_set {w : World} {a : LexA} {ln : Int} {tl : Tok} {vs vs' : List Value} {n n' : Nat} {h₀ h h' : Heap} {L : Addr} (ok : LexOk a) (N : News h₀ L h (lexLed w a ln tl vs n)) (k : Kept [a.ce, a.sg] h h') (e1 : h'.get? a.ce = some a.oce) (e2 : h'.get? a.sg = some (listOf vs'.toArray n')) :
    News h₀ L h' (lexLed w a ln tl vs' n') := by
  have o1 := ltN ok.o1; have o2 := ltN ok.o2; have o3 := ltN ok.o3; have o4 := ltN ok.o4; have o5 := ltN ok.o5; have o6 := ltN ok.o6; have o7 := ltN ok.o7
  refine News.re N rfl ?_
  have kk : ∀ p ∈ lexLed w a ln tl vs n, p.1 ≠ a.ce → p.1 ≠ a.sg → h'.get? p.1 = some p.2 := fun p hp h1 h2 => k _ _ (N p hp).1 (by simp only [List.mem_cons, List.not_mem_nil, or_false, not_or]; exact ⟨h1, h2⟩)
  refine List.forall_mem_cons.mpr ⟨kk _ (by simp) (by k_ne) (by k_ne), ?_⟩
  refine List.forall_mem_cons.mpr ⟨kk _ (by simp) (by k_ne) (by k_ne), ?_⟩
  refine List.forall_mem_cons.mpr ⟨kk _ (by simp) (by k_ne) (by k_ne), ?_⟩
  refine List.forall_mem_cons.mpr ⟨kk _ (by simp) (by k_ne) (by k_ne), ?_⟩
  refine List.forall_mem_cons.mpr ⟨kk _ (by simp) (by k_ne) (by k_ne), ?_⟩
  refine List.forall_mem_cons.mpr ⟨kk _ (by simp) (by k_ne) (by k_ne), ?_⟩
  exact List.forall_mem_cons.mpr ⟨e1, List.forall_mem_cons.mpr ⟨e2, List.forall_mem_nil _⟩⟩
set_option maxRecDepth 100000 in
set_option maxHeartbeats 8000000 in
theorem read1 {w : World} {a : LexA} {ln : Int} {tl : Tok} {n : Nat} {c0 : Nat} {tc : Tok} {vs : List Value} (hvs : vs.length ≤ 1000) (hln : 0 ≤ ln ∧ ln ≤ 1000) (ok : LexOk a) : ToldP w 42 [.ref a.x] (lexLed w a ln tl (.str ⟨#[c0]⟩ tc :: vs) n) 800 8000 (fun h => h.CodeRec (.ref a.c) lamQual)
    (fun r h h' => (∃ t', r = .str ⟨#[c0]⟩ t') ∧ ∃ tl', ∀ p ∈ lexLed w a (if c0 = 10 then ln + 1 else ln) tl' vs (n + 1), h'.get? p.1 = some p.2) := by
  w_top off
  intro A s R H hcd hret
  have hk : (hd.heap_39 w.params).In s.heap → True := fun _ => trivial
  revert hk
  k_fill
  intro _
  ((k_dflt (refine' enter ‹At _ _ _ _ _ _› ?kd ?k6 ?k7 ?k9 ?kB ?c5 ?_ ?c2 ?c3 ?c4; (case kd => decide); (case k6 => k_is); (case k7 => k_is); (case k9 => exact BindsTo.of_eq rfl); (case c5 => decide); (case kB => exact locs rfl); (case c2 => exact rfl); (case c3 => exact rfl); (case c4 => exact rfl))))
  intro A₀ base outer g h₁ L p loose mean mg mb hkept hgs hL F N B X T C
  have hN1 : ∀ p ∈ lexLed w a ln tl (.str ⟨#[c0]⟩ tc :: vs) n, s.heap.get? p.1 = some p.2 := fun p hp => H.news p hp
  have o1 := ltN ok.o1; have o2 := ltN ok.o2; have o3 := ltN ok.o3; have o4 := ltN ok.o4; have o5 := ltN ok.o5; have o6 := ltN ok.o6; have o7 := ltN ok.o7
  (try k_unmd)
  (try k_fold)
  (repeat ((fail_if_success (with_reducible show wpAny _ _ (call (Value.ref _) _) _ _ _)); ((first | (k_unfold; (try dsimp only)) | walk1 | (dsimp only; walk1) | (leave1; (try dsimp only))))))
  · exact ⟨_, _, _, _, (N _ lex_f).1⟩
  refine (lam1 hvs ok).call (At.of B F X T C N lex_two rfl rfl rfl rfl rfl (Nat.le_of_ble_eq_true rfl) (Nat.le_of_ble_eq_true rfl)) ⟨(N _ lex_f).1, codeRec_kept hcd (fun p hp => ⟨(hN1 p hp), lex_data p hp⟩) (hkept.of_fr F)⟩ ?_
  rintro r h' tk' hk2 ⟨⟨t', rfl⟩, e1, e2⟩
  have N2 := lex_set ok N hk2 e1 e2
  have F2 := hk2.fr F (fun q => by simp only [List.map_cons, List.map_nil, List.mem_cons, List.not_mem_nil, or_false] at q; rcases q with rfl | rfl; exact (N _ (lex_two _ (.head _))).2.1 rfl; exact (N _ (lex_two _ (.tail _ (.head _)))).2.1 rfl)
    (fun b hb => by simp only [List.map_cons, List.map_nil, List.mem_cons, List.not_mem_nil, or_false] at hb; rcases hb with rfl | rfl; exact (N _ (lex_two _ (.head _))).2.2; exact (N _ (lex_two _ (.tail _ (.head _)))).2.2)
  clear N F
  dsimp only [lexLed] at N2
  (try dsimp only)
  repeat' (first | (k_unfold; (try dsimp only)) | walk1 | (dsimp only; walk1) | (leave1; (try dsimp only)))
  · (rename News _ _ _ _ => lN)
    (rename Fr _ _ _ _ => lF)
    have q10 : c0 = 10 := sgnT (k := 10) (x := Str.ofString "\n") (by decide) (by with_reducible assumption)
    exact hret _ _ _ (hkept.of_fr lF) ⟨⟨_, rfl⟩, _, by rw [if_pos q10]; exact fun p hp => (lN p hp).1⟩
  · (rename News _ _ _ _ => lN)
    (rename Fr _ _ _ _ => lF)
    have q10 : c0 ≠ 10 := sgnF (k := 10) (x := Str.ofString "\n") (by decide) (by with_reducible assumption)
    exact hret _ _ _ (hkept.of_fr lF) ⟨⟨_, rfl⟩, _, by rw [if_neg q10]; exact fun p hp => (lN p hp).1⟩
set_option maxRecDepth 100000 in
set_option maxHeartbeats 8000000 in
theorem read0 {w : World} {a : LexA} {ln : Int} {tl : Tok} {n : Nat} (ok : LexOk a) : ToldP w 42 [.ref a.x] (lexLed w a ln tl [] n) 800 8000 (fun h => h.CodeRec (.ref a.c) lamQual)
    (fun r h h' => (∃ t', r = .str (S []) t') ∧ ∀ p ∈ lexLed w a ln tl [] n, h'.get? p.1 = some p.2) := by
  w_top off
  intro A s R H hcd hret
  have hk : (hd.heap_39 w.params).In s.heap → True := fun _ => trivial
  revert hk
  k_fill
  intro _
  ((k_dflt (refine' enter ‹At _ _ _ _ _ _› ?kd ?k6 ?k7 ?k9 ?kB ?c5 ?_ ?c2 ?c3 ?c4; (case kd => decide); (case k6 => k_is); (case k7 => k_is); (case k9 => exact BindsTo.of_eq rfl); (case c5 => decide); (case kB => exact locs rfl); (case c2 => exact rfl); (case c3 => exact rfl); (case c4 => exact rfl))))
  intro A₀ base outer g h₁ L p loose mean mg mb hkept hgs hL F N B X T C
  have hN1 : ∀ p ∈ lexLed w a ln tl [] n, s.heap.get? p.1 = some p.2 := fun p hp => H.news p hp
  have o1 := ltN ok.o1; have o2 := ltN ok.o2; have o3 := ltN ok.o3; have o4 := ltN ok.o4; have o5 := ltN ok.o5; have o6 := ltN ok.o6; have o7 := ltN ok.o7
  (try k_unmd)
  (try k_fold)
  (repeat ((fail_if_success (with_reducible show wpAny _ _ (call (Value.ref _) _) _ _ _)); ((first | (k_unfold; (try dsimp only)) | walk1 | (dsimp only; walk1) | (leave1; (try dsimp only))))))
  · exact ⟨_, _, _, _, (N _ lex_f).1⟩
  refine (lam0 ok).call (At.of B F X T C N lex_two rfl rfl rfl rfl rfl (Nat.le_of_ble_eq_true rfl) (Nat.le_of_ble_eq_true rfl)) ⟨(N _ lex_f).1, codeRec_kept hcd (fun p hp => ⟨(hN1 p hp), lex_data p hp⟩) (hkept.of_fr F)⟩ ?_
  rintro r h' tk' hk2 ⟨⟨t', rfl⟩, e1, e2⟩
  have N2 := lex_set (vs' := []) ok N hk2 e1 e2
  have F2 := hk2.fr F (fun q => by simp only [List.map_cons, List.map_nil, List.mem_cons, List.not_mem_nil, or_false] at q; rcases q with rfl | rfl; exact (N _ (lex_two _ (.head _))).2.1 rfl; exact (N _ (lex_two _ (.tail _ (.head _)))).2.1 rfl)
    (fun b hb => by simp only [List.map_cons, List.map_nil, List.mem_cons, List.not_mem_nil, or_false] at hb; rcases hb with rfl | rfl; exact (N _ (lex_two _ (.head _))).2.2; exact (N _ (lex_two _ (.tail _ (.head _)))).2.2)
  clear N F
  dsimp only [lexLed] at N2
  (try dsimp only)
  repeat' (first | (k_unfold; (try dsimp only)) | walk1 | (dsimp only; walk1) | (leave1; (try dsimp only)))
  (rename News _ _ _ _ => lN)
  (rename Fr _ _ _ _ => lF)
  exact hret _ _ _ (hkept.of_fr lF) ⟨⟨_, rfl⟩, fun p hp => (lN p hp).1⟩
end Mine
end
section
open PySem PySem.W PyProof.Rows PySem.Calls
namespace Mine
set_option maxRecDepth 100000
theorem slot_ci_next : Slot "callable_iterator" (Str.ofString "__next__") "callable_iterator.__next__" :=
  .of (owner := "callable_iterator") (n := "__next__") (by rw [typeLookup_type, builtinLookup_eq_fast]; kernel_rfl) (by decide +kernel) (by decide +kernel) (by decide +kernel)
    (by first | exact .inl (by decide +kernel) | exact .inr (by decide +kernel)) (by rw [isSubtype_type]; kernel_rfl)
theorem entry_ci_next : entryFor table "callable_iterator.__next__" = some Builtin.«callable_iterator.__next__» := entryFor_of_tree (by kernel_rfl)
theorem owner_ci : Manifest.owners.lookup (String.ofList "callable_iterator".toList.reverse.reverse) = some Manifest.sig_callable_iterator := by kernel_rfl
theorem args_ci_next (a : Value) : argsOk "callable_iterator.__next__" ⟨[a], []⟩ := by
  unfold argsOk; rw [signature?_of (id := "callable_iterator.__next__") (n := ['_', '_', 't', 'x', 'e', 'n', '_', '_']) (o := "callable_iterator".toList.reverse) (by kernel_rfl) owner_ci]; kernel_rfl
theorem slot_ci_iter : Slot "callable_iterator" (Str.ofString "__iter__") "callable_iterator.__iter__" :=
  .of (owner := "callable_iterator") (n := "__iter__") (by rw [typeLookup_type, builtinLookup_eq_fast]; kernel_rfl) (by decide +kernel) (by decide +kernel) (by decide +kernel)
    (by first | exact .inl (by decide +kernel) | exact .inr (by decide +kernel)) (by rw [isSubtype_type]; kernel_rfl)
theorem entry_ci_iter : entryFor table "callable_iterator.__iter__" = some Builtin.«dict_keyiterator.__iter__» :=
  entryFor_alias (id' := "dict_keyiterator.__iter__") (by kernel_rfl) rfl (by decide +kernel) (by kernel_rfl)
theorem args_ci_iter (a : Value) : argsOk "callable_iterator.__iter__" ⟨[a], []⟩ := by
  unfold argsOk; rw [signature?_of (id := "callable_iterator.__iter__") (n := ['_', '_', 'r', 'e', 't', 'i', '_', '_']) (o := "callable_iterator".toList.reverse) (by kernel_rfl) owner_ci]; kernel_rfl
abbrev ciObj (f sen : Value) (e : Bool) : Obj := { cls := .type "callable_iterator", data := .fields #[f, sen, .bool e] }
section
variable {prog : Program} {w : World} {A : Around} {E : Value → Shared → Prop} {s : Shared} {it q fn : Addr} {f sen self : Value} {e : Bool}
theorem pyIter_ci {Q : Value → Shared → Prop} (hit : s.heap.get? it = some (ciObj f sen e)) (h : Q (.ref it) s) : wpAny (model prog w) A (pyIter (.ref it)) Q E s := by
  have hT : s.TypeIs (.ref it) "callable_iterator" := ⟨_, hit, rfl⟩
  refine wpAny_pyIter_slot hT slot_ci_iter (wpAny_call_entry slot_ci_iter hT entry_ci_iter ?_ (args_ci_iter _))
  show wpAny _ _ (ret (.ref it)) _ _ s
  exact wpAny_pure ⟨_, rfl, "callable_iterator", _, hT, slot_ci_next.lookup, h⟩
theorem wpAny_callBorrowed {M : Model} {fv : Value} {pos : List Value} {Q : Value → Shared → Prop}
    (hc : codeAny M A (.call fv ⟨pos, []⟩) (fun r s' => match r with | .ok (.ret v) => Q v s' | .ok _ => False | .error e => E e s') s) : wpAny M A (callBorrowed fv pos) Q E s := fun Γ p hΓ => by
  show Sem.wp M Γ (Sem.call _ _ _ _ _) _ _ p s
  rw [Sem.wp_call]
  refine wpCode_mono (fun r s' h => ?_) (hc _ p rfl (hΓ.enter _ none p (by intro x; cases x)))
  cases r with
  | error e => exact h
  | ok fl => cases fl <;> exact h
/-- a StopIteration raised anew -/
theorem stop_any {α : Type} {M : Model} {A' : Around} {Q' : α → Shared → Prop} {E' : Value → Shared → Prop} (hh : A'.handled = none)
    (hE : ∀ x h' o, (∀ b o, s.heap.get? b = some o → h'.get? b = some o) → h'.get? x = some o → o.cls = .type "StopIteration" → E' (.ref x) { s with heap := h' }) : wpAny M A' (Builtin.SmallTypes.stopIteration : Sem α) Q' E' s := by
  show wpAny _ _ (newExc (.type "StopIteration") [] >>= _) _ _ _
  refine wpAny_bind ?_
  simp only [newExc, newTuple]
  refine wpAny_bind (wpAny_newObj_type ?_ (by size_fits))
  refine wpAny_bind (m := firstArgMember _ _) (wpAny_of_eq (a := Value.none) (by first | rfl | (simp only [firstArgMember]; rfl)) ?_)
  refine wpAny_newObj_type ?_ (by size_fits)
  simp only [raiseNew]
  refine wpAny_bind (wpAny_handled ?_)
  rw [hh]
  refine wpAny_bind (wpAny_pure (wpAny_throw ?_))
  exact hE _ _ _ (fun b o e => Heap.get?_push_of_some _ (Heap.get?_push_of_some _ e)) (Heap.get?_push_size _ rfl) rfl
theorem pyNext_ended {Q : Option Value → Shared → Prop} (hh : A.handled = none) (hit : s.heap.get? it = some (ciObj f sen true)) (hQ : ∀ h', (∀ b o, s.heap.get? b = some o → h'.get? b = some o) → Q none { s with heap := h' }) :
    wpAny (model prog w) A (pyNext (.ref it)) Q E s := by
  have hT : s.TypeIs (.ref it) "callable_iterator" := ⟨_, hit, rfl⟩
  unfold pyNext
  refine wpAny_bind (wpAny_attempt (wpAny_callSpecial?_slot (name := Str.ofString "__next__") hT slot_ci_next (wpAny_call_entry slot_ci_next hT entry_ci_next ?_ (args_ci_next _))))
  show wpAny _ _ (field (.ref it) 2 >>= _) _ _ s
  refine wpAny_bind (wpAny_field hit rfl (x := .bool true) rfl ?_)
  show wpAny _ _ (rule _ >>= fun _ => (Builtin.SmallTypes.stopIteration >>= _)) _ _ s
  refine wpAny_bind (wpAny_rule (wpAny_bind (stop_any hh fun x h' o hk ho hc => ?_)))
  exact wpAny_bind (wpAny_isInstance (T := "StopIteration") (b := true) ⟨o, ho, hc⟩ isSubtype_stop (wpAny_pure (hQ _ hk)))
/-- what one more call of the method gives -/
theorem pyNext_ci {fd : FuncData} {ofn : Obj} {y : Str} {ty : Tok} {Q : Option Value → Shared → Prop} (hh : A.handled = none) (hit : s.heap.get? it = some (ciObj (.ref q) (.str y ty) false)) (hq : s.heap.get? q = some (methodObj (.ref fn) self))
    (hfn : s.heap.get? fn = some ofn) (hfd : ofn.data = .func fd)
    (hc : codeAny (model prog w) A.in1 (.call (.ref fn) ⟨[self], []⟩) (fun r s' => ∃ x t, r = .ok (.ret (.str x t)) ∧ s'.heap.get? it = some (ciObj (.ref q) (.str y ty) false) ∧ s'.heap.get? q = some (methodObj (.ref fn) self) ∧ s'.heap.get? fn = some ofn ∧
      (x ≠ y → Q (some (.str x t)) s') ∧ (x = y → ∀ h', (∀ b o, b ≠ it → s'.heap.get? b = some o → h'.get? b = some o) → h'.get? it = some (ciObj .none .none true) → Q none { s' with heap := h' })) s) :
    wpAny (model prog w) A (pyNext (.ref it)) Q E s := by
  have hT : s.TypeIs (.ref it) "callable_iterator" := ⟨_, hit, rfl⟩
  have hborrow : ∀ {s' : Shared} {A' : Around} {E' : Value → Shared → Prop} {Q' : Bool → Shared → Prop}, s'.heap.get? q = some (methodObj (.ref fn) self) → s'.heap.get? fn = some ofn → Q' true s' → wpAny (model prog w) A' (borrowsExactly (.ref q)) Q' E' s' := by
    intro s' A' E' Q' h1 h2 hQ'
    unfold borrowsExactly
    refine wpAny_bind (wpAny_load h1 ?_)
    show wpAny _ _ (load fn >>= _) _ _ s'
    refine wpAny_bind (wpAny_load h2 ?_)
    rw [hfd]
    exact wpAny_pure hQ'
  unfold pyNext
  refine wpAny_bind (wpAny_attempt (wpAny_callSpecial?_slot (name := Str.ofString "__next__") hT slot_ci_next (wpAny_call_entry slot_ci_next hT entry_ci_next ?_ (args_ci_next _))))
  show wpAny _ _ (field (.ref it) 2 >>= _) _ _ s
  refine wpAny_bind (wpAny_field hit rfl (x := .bool false) rfl ?_)
  show wpAny _ _ (field (.ref it) 0 >>= _) _ _ s
  refine wpAny_bind (wpAny_field hit rfl (x := .ref q) rfl ?_)
  refine wpAny_bind (wpAny_attempt ?_)
  unfold callOutOfASlot
  refine wpAny_bind (hborrow hq hfn ?_)
  refine wpAny_callBorrowed (method_call hq (codeAny_mono hc ?_))
  rintro r s' ⟨x, t, rfl, h1, h2, h3, hne, heq⟩
  show wpAny _ _ (field (.ref it) 2 >>= _) _ _ s'
  refine wpAny_bind (wpAny_field h1 rfl (x := .bool false) rfl ?_)
  show wpAny _ _ (field (.ref it) 1 >>= _) _ _ s'
  refine wpAny_bind (wpAny_field h1 rfl (x := .str y ty) rfl ?_)
  refine wpAny_bind (wpAny_holding (wpAny_eqBool_str ?_))
  by_cases hxy : y = x
  · rw [decide_eq_true hxy]
    show wpAny _ _ (rule _ >>= _) _ _ s'
    refine wpAny_bind (wpAny_rule (wpAny_bind ?_))
    show wpAny _ _ (field (.ref it) 0 >>= _) _ _ s'
    refine wpAny_bind (wpAny_field h1 rfl (x := .ref q) rfl ?_)
    show wpAny _ _ (slotLetsGo _ _ _ >>= _) _ _ s'
    refine wpAny_bind ?_
    unfold slotLetsGo
    refine wpAny_bind (hborrow h2 h3 (wpAny_pure ?_))
    show wpAny _ _ (setField (.ref it) 0 .none >>= _) _ _ s'
    refine wpAny_bind (wpAny_setField h1 rfl (show 0 < 3 by decide) ?_)
    have e1 : (s'.heap.update it (Obj.mapFields (·.setIfInBounds 0 .none))).get? it = some (ciObj .none (.str y ty) false) := Heap.get?_update_self _ h1 rfl
    refine wpAny_bind (wpAny_setField e1 rfl (show 1 < 3 by decide) ?_)
    have e2 : ((s'.heap.update it (Obj.mapFields (·.setIfInBounds 0 .none))).update it (Obj.mapFields (·.setIfInBounds 1 .none))).get? it = some (ciObj .none .none false) := Heap.get?_update_self _ e1 rfl
    refine wpAny_setField e2 rfl (show 2 < 3 by decide) ?_
    have e3 : (((s'.heap.update it (Obj.mapFields (·.setIfInBounds 0 .none))).update it (Obj.mapFields (·.setIfInBounds 1 .none))).update it (Obj.mapFields (·.setIfInBounds 2 (.bool true)))).get? it = some (ciObj .none .none true) := Heap.get?_update_self _ e2 rfl
    refine stop_any hh fun x' h' o hk ho hc => ?_
    refine wpAny_bind (wpAny_isInstance (T := "StopIteration") (b := true) ⟨o, ho, hc⟩ isSubtype_stop (wpAny_pure ?_))
    exact heq hxy.symm h' (fun b o hb e => hk _ _ ((Heap.get?_update_ne _ _ _ _ hb).trans ((Heap.get?_update_ne _ _ _ _ hb).trans ((Heap.get?_update_ne _ _ _ _ hb).trans e)))) (hk _ _ e3)
  · rw [decide_eq_false hxy]
    exact wpAny_pure ⟨_, rfl, wpAny_pure (hne fun e => hxy e.symm)⟩
end
end Mine
end
section
open PySem PySem.W PyProof.Rows PySem.Calls
namespace Mine
set_option maxRecDepth 100000
theorem args_iter2 (a b : Value) : argsOk "iter" ⟨[a, b], []⟩ := by unfold argsOk; kernel_rfl
theorem look_method_call : typeLookup (.type "method") (Str.ofString "__call__") = pure (some (.builtin "method.__call__")) := by rw [typeLookup_type, builtinLookup_eq_fast]; kernel_rfl
theorem iter2 {prog : Program} {w : World} {A : Around} {E : Value → Shared → Prop} {s : Shared} {h₀ : Heap} {L q : Addr} {m : Str → Option Value} {news : List (Addr × Obj)} {f self : Value} {y : Str} {ty : Tok} {Q : Value → Shared → Prop}
    (F : Fr h₀ L s.heap m) (N : News h₀ L s.heap news) (hq : s.heap.get? q = some (methodObj f self))
    (h : ∀ I h', Fr h₀ L h' m → News h₀ L h' ((I, ciObj (.ref q) (.str y ty) false) :: news) → (∀ p ∈ news, p.1 < I) → Q (.ref I) { s with heap := h' }) :
    wpAny (model prog w) A (call (.builtin "iter") [.ref q, .str y ty]) Q E s := by
  refine Calls.call_function_entry (by decide +kernel) (by decide +kernel) kdk_entry_iter (args_iter2 _ _) ?_
  unfold Builtin.«iter»
  refine wpAny_bind (m := someArgs "iter" 1 2 _) (wpAny_of_eq (a := [Value.ref q, Value.str y ty]) (by first | rfl | kernel_rfl!) ?_)
  have hr := look_method_call
  refine wpAny_bind (wpAny_specialOf (T := "method") ⟨_, hq, rfl⟩ hr ?_)
  show wpAny _ _ (rule _ >>= _) _ _ s
  refine wpAny_bind (wpAny_rule (wpAny_bind (wpAny_newObj_type (wpAny_pure ⟨_, rfl, ?_⟩))))
  exact h _ _ (F.push _) (N.push F _) fun p hp => Heap.lt_size (N p hp).1
end Mine
end
section
open PySem PySem.W PyProof.Rows PySem.Calls
namespace Mine
/-- a for loop whose turns are walked in a body that nothing leaves by a raise -/
theorem for_raw {prog : Program} {w : World} {A : Around} {s : Shared} {E : Value → Shared → Prop} {target : Expr} {it : Value} {body : List Stmt} {env : Env} {Q : Flow → Shared → Prop} (I : Nat → Shared → Prop)
    (turn : ∀ n s, I n s → wpAny (model prog w) A (pyNext it) (fun r s₁ => match r with
      | none => Q .next s₁
      | some v => wpAny (model prog w) A (assign target env v) (fun _ s₂ => wpAny (model prog w) A (execs body env) (fun f s₃ => match f with
          | .next | .cont => ∃ m, m < n ∧ I m s₃
          | .brk => Q .next s₃
          | .ret v => Q (.ret v) s₃) (fun _ _ => False) s₂) (fun _ _ => False) s₁) (fun _ _ => False) s)
    (n : Nat) (h : I n s) (ht : ∀ v, letOwnedTupleGo target it v = pure () := by intro _; rfl) :
    codeAny (model prog w) A (.forLoop target it body [] env) (fun r s' => match r with | .ok f => Q f s' | .error e => cameBackBy (model prog w) A env E e s') s := by
  refine codeAny_forLoop I (fun n s hI => wpAny_mono (turn n s hI) (fun r s₁ h₁ => ?_) fun _ _ x => x.elim) n h ht
  cases r with
  | none => exact wpAny_execs_nil h₁
  | some v => exact wpAny_mono h₁ (fun _ s₂ h₂ => wpAny_mono h₂ (fun _ _ x => x) fun _ _ x => x.elim) fun _ _ x => x.elim
/-- the same, the invariant under another name in the turn (the turn's terms stay small) -/
theorem for_rawJ {prog : Program} {w : World} {A : Around} {s : Shared} {E : Value → Shared → Prop} {target : Expr} {it : Value} {body : List Stmt} {env : Env} {Q : Flow → Shared → Prop} (I : Nat → Shared → Prop)
    (turn : ∀ J : Nat → Shared → Prop, (∀ n s, I n s → J n s) → ∀ n s, I n s → wpAny (model prog w) A (pyNext it) (fun r s₁ => match r with
      | none => Q .next s₁
      | some v => wpAny (model prog w) A (assign target env v) (fun _ s₂ => wpAny (model prog w) A (execs body env) (fun f s₃ => match f with
          | .next | .cont => ∃ m, m < n ∧ J m s₃
          | .brk => Q .next s₃
          | .ret v => Q (.ret v) s₃) (fun _ _ => False) s₂) (fun _ _ => False) s₁) (fun _ _ => False) s)
    (n : Nat) (h : I n s) (ht : ∀ v, letOwnedTupleGo target it v = pure () := by intro _; rfl) :
    codeAny (model prog w) A (.forLoop target it body [] env) (fun r s' => match r with | .ok f => Q f s' | .error e => cameBackBy (model prog w) A env E e s') s :=
  for_raw I (turn I fun _ _ h => h) n h ht
theorem kept_fr_led {h₀ h h' : Heap} {L : Addr} {m : Str → Option Value} {hid news : List (Addr × Obj)} (k : Kept (hid.map (·.1)) h h') (F : Fr h₀ L h m) (N : News h₀ L h news) (hs : ∀ p ∈ hid, p ∈ news) : Fr h₀ L h' m :=
  k.fr F (fun q => by obtain ⟨p, hp, e⟩ := List.mem_map.mp q; exact (N p (hs p hp)).2.1 e) (fun b hb => by obtain ⟨p, hp, e⟩ := List.mem_map.mp hb; exact e ▸ (N p (hs p hp)).2.2)
theorem lex_news {w : World} {a : LexA} {ln ln' : Int} {tl tl' : Tok} {vs vs' : List Value} {n n' : Nat} {h₀ h h' : Heap} {L : Addr} {pre : List (Addr × Obj)} (N : News h₀ L h (pre ++ lexLed w a ln tl vs n)) (k : Kept ((lexLed w a ln tl vs n).map (·.1)) h h')
    (hg : ∀ p ∈ lexLed w a ln' tl' vs' n', h'.get? p.1 = some p.2) (hpre : ∀ p ∈ pre, ∃ vs, p.2.data = .fields vs) : News h₀ L h' (pre ++ lexLed w a ln' tl' vs' n') := by
  refine News.re N (by simp only [List.map_append]; rfl) fun p hp => ?_
  rcases List.mem_append.mp hp with hp | hp
  · refine k _ _ (N p (List.mem_append_left _ hp)).1 fun hm => ?_
    obtain ⟨q, hq, e⟩ := List.mem_map.mp hm
    obtain ⟨fs, hf⟩ := hpre p hp
    have e1 := (N q (List.mem_append_right _ hq)).1
    rw [e, (N p (List.mem_append_left _ hp)).1] at e1
    exact lex_data q hq fs (by rw [← Option.some.inj e1]; exact hf)
  · exact hg p hp
/-- a bound method's object, an iterator over it, ahead of the lexer's parts -/
abbrev itLed (I q : Addr) (a : LexA) (o : Obj) : List (Addr × Obj) := [(I, o), (q, methodObj (.ref 42) (.ref a.x))]
abbrev liveO (q : Addr) (t0 : Tok) : Obj := ciObj (.ref q) (.str (Str.ofString "") t0) false
abbrev deadO : Obj := ciObj .none .none true
theorem it_fields {I q : Addr} {a : LexA} {f sen : Value} {e : Bool} : ∀ p ∈ itLed I q a (ciObj f sen e), ∃ vs, p.2.data = .fields vs :=
  List.forall_mem_cons.mpr ⟨⟨_, rfl⟩, List.forall_mem_cons.mpr ⟨⟨_, rfl⟩, List.forall_mem_nil _⟩⟩
section
variable {w : World} {A A₀ : Around} {E : Value → Shared → Prop} {s : Shared} {base g : Heap} {outer : List Env} {env : Env} {L I q : Addr} {a : LexA} {t0 : Tok} {m : Str → Option Value} {p : Program} {loose : List Str} {mean : ExcName → Option Value} {mg mb : Str → Option Value}
  {ln : Int} {tl : Tok} {vs : List Value} {n : Nat} {Q : Option Value → Shared → Prop}
theorem fn42 (X : (hd.heap_39 w.params).In g) (F : Fr g L s.heap m) : ∃ o fd, s.heap.get? 42 = some o ∧ o.data = .func fd := by
  have h : ∃ o fd, (hd.heap_39 w.params).lookup 42 = some o ∧ o.data = .func fd := ⟨_, _, rfl, rfl⟩
  obtain ⟨o, fd, e1, e2⟩ := h
  exact ⟨o, fd, F.keep _ _ (X _ _ e1), e2⟩
theorem next_some {c0 : Nat} {tc : Tok} (ok : LexOk a) (B : Below A₀ base outer g) (X : (hd.heap_39 w.params).In g) (T : Top p loose mean mg mb g) (C : CodeHd g 81 77) (hcg : g.CodeRec (.ref a.c) lamQual)
    (h1 : A.frames = some (env :: outer)) (h2 : env.frame = some L) (h3 : env.scope.kind = .function) (h4 : A.handled = none) (h5 : A.guards = some []) (h6 : A.depth ≤ 800) (h7 : A.units + 1 ≤ 8000)
    (hvs : vs.length ≤ 1000) (hln : 0 ≤ ln ∧ ln ≤ 1000) (F : Fr g L s.heap m) (N : News g L s.heap (itLed I q a (liveO q t0) ++ lexLed w a ln tl (.str ⟨#[c0]⟩ tc :: vs) n))
    (h : ∀ t tl' h' tk, Fr g L h' m → News g L h' (itLed I q a (liveO q t0) ++ lexLed w a (if c0 = 10 then ln + 1 else ln) tl' vs (n + 1)) → Q (some (.str ⟨#[c0]⟩ t)) { s with heap := h', toks := tk }) :
    wpAny (model Challenge.rw_pk0046_01.row.prog w) A (pyNext (.ref I)) Q E s := by
  obtain ⟨ofn, fd, hfn, hfd⟩ := fn42 X F
  have hs : ∀ p ∈ lexLed w a ln tl (.str ⟨#[c0]⟩ tc :: vs) n, p ∈ itLed I q a (liveO q t0) ++ lexLed w a ln tl (.str ⟨#[c0]⟩ tc :: vs) n := fun p hp => List.mem_append_right _ hp
  refine pyNext_ci h4 (N _ (.head _)).1 (N _ (.tail _ (.head _))).1 hfn hfd ?_
  refine read1 hvs hln ok _ _ _ (At.of (hid := lexLed w a ln tl (.str ⟨#[c0]⟩ tc :: vs) n) B F X T C N hs h1 h2 h3 h4 h5 h6 h7) (hcg.keeps F.keep) ?_
  rintro r h' tk' hk ⟨⟨t', rfl⟩, tl', hg⟩
  have F' := kept_fr_led hk F N hs
  have N' := lex_news N hk hg it_fields
  obtain ⟨o, fd', e1, e2⟩ := fn42 (s := { s with heap := h', toks := tk' }) X F'
  refine ⟨_, _, rfl, (N' _ (.head _)).1, (N' _ (.tail _ (.head _))).1, ?_, fun _ => h t' tl' h' tk' F' N', fun e => ?_⟩
  · have e3 := F'.keep 42 ofn
    exact e3 (by have := X 42; obtain ⟨o3, fd3, e4, e5⟩ : ∃ o fd, (hd.heap_39 w.params).lookup 42 = some o ∧ o.data = .func fd := ⟨_, _, rfl, rfl⟩; have e6 := X _ _ e4; have e7 := F.keep _ _ e6; rw [hfn] at e7; rw [Option.some.inj e7]; exact e6)
  · exact absurd (congrArg Str.length e) (by show ¬ (1 = 0); decide)
theorem next_end (ok : LexOk a) (B : Below A₀ base outer g) (X : (hd.heap_39 w.params).In g) (T : Top p loose mean mg mb g) (C : CodeHd g 81 77) (hcg : g.CodeRec (.ref a.c) lamQual)
    (h1 : A.frames = some (env :: outer)) (h2 : env.frame = some L) (h3 : env.scope.kind = .function) (h4 : A.handled = none) (h5 : A.guards = some []) (h6 : A.depth ≤ 800) (h7 : A.units + 1 ≤ 8000)
    (hIq : I ≠ q) (F : Fr g L s.heap m) (N : News g L s.heap (itLed I q a (liveO q t0) ++ lexLed w a ln tl [] n))
    (h : ∀ h' tk, Fr g L h' m → News g L h' (itLed I q a deadO ++ lexLed w a ln tl [] n) → Q none { s with heap := h', toks := tk }) :
    wpAny (model Challenge.rw_pk0046_01.row.prog w) A (pyNext (.ref I)) Q E s := by
  obtain ⟨ofn, fd, hfn, hfd⟩ := fn42 X F
  have hs : ∀ p ∈ lexLed w a ln tl [] n, p ∈ itLed I q a (liveO q t0) ++ lexLed w a ln tl [] n := fun p hp => List.mem_append_right _ hp
  refine pyNext_ci h4 (N _ (.head _)).1 (N _ (.tail _ (.head _))).1 hfn hfd ?_
  refine read0 ok _ _ _ (At.of (hid := lexLed w a ln tl [] n) B F X T C N hs h1 h2 h3 h4 h5 h6 h7) (hcg.keeps F.keep) ?_
  rintro r h' tk' hk ⟨⟨t', rfl⟩, hg⟩
  have F' := kept_fr_led hk F N hs
  have N' := lex_news N hk hg it_fields
  refine ⟨_, _, rfl, (N' _ (.head _)).1, (N' _ (.tail _ (.head _))).1, ?_, fun e => absurd rfl e, fun _ h'' hk2 hI => ?_⟩
  · exact F'.keep 42 ofn (by obtain ⟨o3, fd3, e4, e5⟩ : ∃ o fd, (hd.heap_39 w.params).lookup 42 = some o ∧ o.data = .func fd := ⟨_, _, rfl, rfl⟩; have e6 := X _ _ e4; have e7 := F.keep _ _ e6; rw [hfn] at e7; rw [Option.some.inj e7]; exact e6)
  · have hI1 := N' _ (List.Mem.head _)
    obtain ⟨oL, es, ep, eL, rL⟩ := F'.ns
    refine h h'' tk' ⟨⟨oL, es, ep, hk2 _ _ (fun e => hI1.2.1 e.symm) eL, rL⟩, fun b o e => hk2 _ _ (fun e' => by rw [e'] at e; rw [hI1.2.2] at e; cases e) (F'.keep b o e), F'.above⟩ ?_
    intro p hp
    rcases List.mem_cons.mp hp with rfl | hp
    · exact ⟨hI, hI1.2⟩
    · have hp' := N' p (.tail _ hp)
      refine ⟨hk2 _ _ (fun e => ?_) hp'.1, hp'.2⟩
      rcases List.mem_cons.mp hp with rfl | hp
      · exact hIq e.symm
      · have e1 := hp'.1
        rw [e, hI1.1] at e1
        exact lex_data p hp _ (by rw [← Option.some.inj e1])
theorem next_dead (h4 : A.handled = none) (F : Fr g L s.heap m) (N : News g L s.heap (itLed I q a deadO ++ lexLed w a ln tl vs n))
    (h : ∀ h', Fr g L h' m → News g L h' (itLed I q a deadO ++ lexLed w a ln tl vs n) → Q none { s with heap := h' }) :
    wpAny (model Challenge.rw_pk0046_01.row.prog w) A (pyNext (.ref I)) Q E s :=
  pyNext_ended h4 (N _ (.head _)).1 fun h' hk => h h' (Kept.fr0 (fun b o e _ => hk b o e) F) (Kept.news0 (fun b o e _ => hk b o e) N)
end
/-- the signs' values -/
abbrev sgn (c : Nat) : Str := ⟨#[c]⟩
end Mine
end
section
open PySem PySem.W PyProof.Rows PySem.Calls
namespace Mine
set_option pp.deepTerms false
set_option pp.deepTerms.threshold 8
set_option pp.maxSteps 3000
def rdQ (acc : List Nat) : List Nat → List Nat × List Nat
  | [] => (acc, [])
  | [c] => if c = 34 then (acc, []) else if c = 92 then (acc, []) else (acc ++ [c], [])
  | c :: d :: r => if c = 34 then (acc, d :: r) else if c = 92 then rdQ (acc ++ [d]) r else rdQ (acc ++ [c]) (d :: r)
def isW (c : Nat) : Bool := c == 10 || c == 9 || c == 13 || c == 32
def rdB (acc : List Nat) : List Nat → List Nat × List Nat
  | [] => (acc, [])
  | [c] => if isW c then (acc, []) else if c = 92 then (acc, []) else (acc ++ [c], [])
  | c :: d :: r => if isW c then (acc, d :: r) else if c = 92 then rdB (acc ++ [d]) r else rdB (acc ++ [c]) (d :: r)
def tokL : List Nat → List Nat × List Nat
  | [] => ([], [])
  | c :: r => if isW c then tokL r else if c = 34 then rdQ [] r else rdB [] (c :: r)
theorem sz_vs' {vs : List Value} {l : List Nat} (h : StrsAre vs (l.map sgn)) : vs.length = l.length := by
  have := strs_size h
  simp only [List.length_map, List.size_toArray] at this
  omega
theorem lnf_step {ln : Int} {k : Nat} {c : Nat} {r : List Nat} : (if c = 10 then (fun l' : List Nat => ln + k - l'.count 10) (c :: r) + 1 else (fun l' : List Nat => ln + k - l'.count 10) (c :: r)) = ln + k - r.count 10 := by
  simp only [List.count_cons]
  by_cases h : c = 10
  · subst h; simp; omega
  · simp [h]
theorem lnf_step' {ln : Int} {k : Nat} {c : Nat} {r : List Nat} : (if c = 10 then ln + k - ((c :: r).count 10 : Nat) + 1 else ln + k - ((c :: r).count 10 : Nat)) = ln + k - (r.count 10 : Nat) := lnf_step
abbrev tokM (a : LexA) (I : Addr) (tok : List Nat) (tt : Tok) (u : Option Value) : Str → Option Value := fun y => if y = Str.ofString "ch" then u else if y = Str.ofString "token" then some (.str (S tok) tt) else if y = Str.ofString "fiter" then some (.ref I) else if y = Str.ofString "self" then some (.ref a.x) else none
def TokAt (w : World) (a : LexA) (g : Heap) (L I q : Addr) (t0 : Tok) (lnf : List Nat → Int) (s₀ : Shared) (o : Obj) (tok l : List Nat) (s : Shared) : Prop :=
  ∃ h tk tl vs n tt u, s = { s₀ with heap := h, toks := tk } ∧ Fr g L h (tokM a I tok tt u) ∧ News g L h (itLed I q a o ++ lexLed w a (lnf l) tl vs n) ∧ StrsAre vs (l.map sgn)
theorem rdQ_34 {tok r : List Nat} : rdQ tok (34 :: r) = (tok, r) := by cases r <;> simp [rdQ]
theorem rdQ_92 {tok r : List Nat} {d : Nat} : rdQ tok (92 :: d :: r) = rdQ (tok ++ [d]) r := by simp [rdQ]
theorem rdQ_92n {tok : List Nat} : rdQ tok [92] = rdQ tok [] := by simp [rdQ]
theorem rdQ_c {tok r : List Nat} {c : Nat} (h1 : c ≠ 34) (h2 : c ≠ 92) : rdQ tok (c :: r) = rdQ (tok ++ [c]) r := by cases r <;> simp [rdQ, h1, h2]
theorem rdB_w {tok r : List Nat} {c : Nat} (h : isW c = true) : rdB tok (c :: r) = (tok, r) := by cases r <;> simp [rdB, h]
theorem rdB_92 {tok r : List Nat} {d : Nat} : rdB tok (92 :: d :: r) = rdB (tok ++ [d]) r := by simp [rdB, isW]
theorem rdB_92n : rdB [] [92] = rdB [] [] := by simp [rdB, isW]
theorem rdB_92n' {tok : List Nat} : rdB tok [92] = rdB tok [] := by simp [rdB, isW]
theorem rdB_c {tok r : List Nat} {c : Nat} (h1 : isW c = false) (h2 : c ≠ 92) : rdB tok (c :: r) = rdB (tok ++ [c]) r := by cases r <;> simp [rdB, h1, h2]
theorem fr_ch {a : LexA} {g h : Heap} {L I : Addr} {tok : List Nat} {tt : Tok} {u : Option Value} {v : Value} (F : Fr g L h (fun y => if y = Str.ofString "ch" then some v else tokM a I tok tt u y)) : Fr g L h (tokM a I tok tt (some v)) := by
  have e : (fun y => if y = Str.ofString "ch" then some v else tokM a I tok tt u y) = tokM a I tok tt (some v) := by
    funext y
    by_cases h1 : y = Str.ofString "ch"
    · simp [h1, tokM]
    · simp [h1, tokM]
  rw [← e]; exact F
theorem Fr.congr {g h : Heap} {L : Addr} {m m' : Str → Option Value} (F : Fr g L h m) (e : ∀ y, m y = m' y) : Fr g L h m' := by rw [← funext e]; exact F
theorem ne_ch_token : Str.ofString "ch" ≠ Str.ofString "token" := by decide
theorem tokM_ext {a : LexA} {I : Addr} {tok tok' : List Nat} {tt tt' : Tok} {u u' : Option Value} {m : Str → Option Value} (h1 : m (Str.ofString "ch") = u') (h2 : ∃ x, m (Str.ofString "token") = some (.str x tt') ∧ x = S tok') (h3 : ∀ y, y ≠ Str.ofString "ch" → y ≠ Str.ofString "token" → m y = tokM a I tok tt u y) : ∀ y, m y = tokM a I tok' tt' u' y := by
  intro y
  obtain ⟨x, h2, rfl⟩ := h2
  by_cases e1 : y = Str.ofString "ch"
  · subst e1; rw [h1]; simp [tokM]
  · by_cases e2 : y = Str.ofString "token"
    · subst e2; rw [h2]; simp [tokM, e1]
    · rw [h3 y e1 e2]; simp [tokM, e1, e2]
theorem lex_sub {I q : Addr} {a : LexA} {o : Obj} {w : World} {ln : Int} {tl : Tok} {vs : List Value} {n : Nat} : ∀ p ∈ lexLed w a ln tl vs n, p ∈ itLed I q a o ++ lexLed w a ln tl vs n := fun p hp => List.mem_append_right _ hp
theorem ws_iff (c : Nat) : (Builtin.Str.occurrences wsStr { cps := #[c] } 0 wsStr.length 1).isEmpty = !isW c := by
  have h := StrLaws.found_one wsStr c
  have e : wsStr.cps.toList = [10, 9, 13, 32] := by decide
  rw [e] at h
  cases hb : (Builtin.Str.occurrences wsStr { cps := #[c] } 0 wsStr.length 1).isEmpty <;> rw [hb] at h <;> simp [isW] at h ⊢ <;> omega
theorem ws_t {c : Nat} (h : (Builtin.Str.occurrences wsStr { cps := #[c] } 0 wsStr.length 1).isEmpty = false) : isW c = true := by rw [ws_iff] at h; simpa using h
theorem ws_f {c : Nat} (h : (Builtin.Str.occurrences wsStr { cps := #[c] } 0 wsStr.length 1).isEmpty = true) : isW c = false := by rw [ws_iff] at h; simpa using h
set_option maxRecDepth 100000 in
set_option maxHeartbeats 8000000 in
theorem tok_told {w : World} {a : LexA} {ln : Int} {tl : Tok} {vs : List Value} {n : Nat} {l : List Nat} (ok : LexOk a) (hl : StrsAre vs (l.map sgn)) (hlen : l.length ≤ 900) (hln : 0 ≤ ln ∧ ln + l.length ≤ 1000) :
    ToldP w 49 [.ref a.x] (lexLed w a ln tl vs n) 700 7000 (fun h => h.CodeRec (.ref a.c) lamQual)
      (fun r h h' => (∃ t', r = .str (S (tokL l).1) t') ∧ ∃ tl' vs' n', StrsAre vs' ((tokL l).2.map sgn) ∧ ∀ p ∈ lexLed w a (ln + l.count 10 - (tokL l).2.count 10) tl' vs' n', h'.get? p.1 = some p.2) := by
  w_top off
  intro A s R H hcd hret
  have hk : (hd.heap_39 w.params).In s.heap → True := fun _ => trivial
  revert hk
  k_fill
  intro _
  ((k_dflt (refine' enter ‹At _ _ _ _ _ _› ?kd ?k6 ?k7 ?k9 ?kB ?c5 ?_ ?c2 ?c3 ?c4; (case kd => decide); (case k6 => k_is); (case k7 => k_is); (case k9 => exact BindsTo.of_eq rfl); (case c5 => decide); (case kB => exact locs rfl); (case c2 => exact rfl); (case c3 => exact rfl); (case c4 => exact rfl))))
  intro A₀ base outer g h₁ L p loose mean mg mb hkept hgs hL F N B X T C
  have hN1 : ∀ p ∈ lexLed w a ln tl vs n, s.heap.get? p.1 = some p.2 := fun p hp => H.news p hp
  have hcg : g.CodeRec (.ref a.c) lamQual := codeRec_kept hcd (fun p hp => ⟨(hN1 p hp), lex_data p hp⟩) hkept
  have o1 := ltN ok.o1; have o2 := ltN ok.o2; have o3 := ltN ok.o3; have o4 := ltN ok.o4; have o5 := ltN ok.o5; have o6 := ltN ok.o6; have o7 := ltN ok.o7
  dsimp only [lexLed] at N
  (try k_unmd)
  (try k_fold)
  (repeat ((fail_if_success (with_reducible show wpAny _ _ (call (Value.builtin "iter") _) _ _ _)); ((first | (k_unfold; (try dsimp only)) | walk1 | (dsimp only; walk1) | (leave1; (try dsimp only))))))
  (rename News _ _ _ _ => lN)
  (rename Fr _ _ _ _ => lF)
  refine iter2 lF lN (lN _ (.head _)).1 fun I h2 F2 N2 hI => ?_
  clear lF
  (rename_i q' _ l1)
  (repeat ((fail_if_success (with_reducible show wpAny _ _ (exec (Stmt.For _ _ _ _ _) _) _ _ _)); ((first | (k_unfold; (try dsimp only)) | walk1 | (dsimp only; walk1) | (leave1; (try dsimp only))))))
  (rename News _ _ _ _ => lN3)
  (rename Fr _ _ _ _ => lF3)
  have hm : ∀ {h : Heap} {m : Str → Option Value} {tt : Tok}, Fr g L h m → (∀ y, m y = tokM a I [] tt none y) → Fr g L h (tokM a I [] tt none) := fun F e => by rw [← funext e]; exact F
  obtain ⟨tt, F4⟩ : ∃ tt, Fr g L _ (tokM a I [] tt none) := ⟨_, hm lF3 (by intro y; by_cases h1 : y = Str.ofString "ch"; subst h1; with_unfolding_all rfl; by_cases h2 : y = Str.ofString "token"; subst h2; with_unfolding_all rfl; by_cases h3 : y = Str.ofString "fiter"; subst h3; with_unfolding_all rfl; by_cases h4 : y = Str.ofString "self"; subst h4; with_unfolding_all rfl; simp [tokM, h1, h2, h3, h4])⟩
  have hIq : I ≠ q' := fun e => Nat.lt_irrefl _ (e ▸ hI _ (.head _))
  obtain ⟨t0, N4⟩ : ∃ t0, News g L _ (itLed I q' a (liveO q' t0) ++ lexLed w a ln tl vs n) := ⟨_, lN3⟩
  clear lF3 lN3 hm
  refine wpAny_For ?_ (fun _ => rfl)
  walk1
  refine pyIter_ci (N4 _ (.head _)).1 ?_
  (try dsimp only)
  refine for_rawJ (fun k s' => ∃ o tok l', TokAt w a g L I q' t0 (fun l' => ln + l.count 10 - l'.count 10) s o tok l' s' ∧ l' <:+ l ∧ ((o = liveO q' t0 ∧ tok = [] ∧ tokL l' = tokL l ∧ k = l'.length + 1) ∨ (o = deadO ∧ tokL l = (tok, l') ∧ k = 0))) ?_ (l.length + 1) ?_
  case refine_2 => exact ⟨_, [], l, ⟨_, _, tl, vs, n, tt, none, rfl, F4, by simpa using N4, hl⟩, List.suffix_refl _, .inl ⟨rfl, rfl, rfl, rfl⟩⟩
  rintro J hJ k s' ⟨o, tok, l', ⟨h, tk, tl, vs, n, tt, u, rfl, F, N, hv⟩, hsuf, hcase⟩
  have hcnt : l'.count 10 ≤ l.count 10 := hsuf.sublist.count_le 10
  have hcnt2 : l.count 10 ≤ l.length := List.count_le_length
  have hlen' : l'.length ≤ l.length := hsuf.length_le
  rcases hcase with ⟨rfl, rfl, htok, rfl⟩ | ⟨rfl, htok, rfl⟩
  · cases l' with
    | nil =>
      cases hv
      refine next_end ok B X T C hcg rfl rfl rfl rfl rfl (Nat.le_of_ble_eq_true rfl) (Nat.le_of_ble_eq_true rfl) hIq F N fun h' tk' F' N' => ?_
      dsimp only
      repeat (first | (k_unfold; (try dsimp only)) | walk1 | (dsimp only; walk1) | (leave1; (try dsimp only)))
      exact hret _ _ _ (hkept.of_fr F') (by rw [← htok]; exact ⟨⟨_, rfl⟩, tl, _, n, .nil, fun p hp => (N' p (List.mem_append_right _ hp)).1⟩)
    | cons c r =>
      cases hv with
      | cons x tc hv' =>
        have hvl := sz_vs' hv'
        refine next_some ok B X T C hcg rfl rfl rfl rfl rfl (Nat.le_of_ble_eq_true rfl) (Nat.le_of_ble_eq_true rfl) ?_ ?_ F N fun t tl' h' tk' F' N' => ?_
        · simp only [List.length_cons] at hlen'; omega
        · simp only [List.count_cons] at hcnt ⊢; constructor <;> omega
        rw [lnf_step] at N'
        dsimp only
        dsimp only [itLed, lexLed, List.cons_append, List.nil_append] at N'
        clear N F
        (iterate 3 (first | (k_unfold; (try dsimp only)) | walk1 | (dsimp only; walk1) | (leave1; (try dsimp only)))); (try k_fold); (first | (k_unfold; (try dsimp only)) | walk1 | (dsimp only; walk1) | (leave1; (try dsimp only)))
        walk1
        (repeat' ((fail_if_success (with_reducible show wpAny _ _ (exec (Stmt.For _ _ _ _ _) _) _ _ _)); (fail_if_success (with_reducible show wpAny _ _ (exec (Stmt.If _ _ _ _) _) _ _ _)); (fail_if_success (with_reducible show ∃ _, _)); (fail_if_success (with_reducible show wpAny _ _ (call (Value.ref _) _) _ _ _)); ((first | (k_unfold; (try dsimp only)) | walk1 | (dsimp only; walk1) | (leave1; (try dsimp only))))))
        · -- a sign that is not white
          have hw := ws_f ‹_›
          walk1
          (repeat' ((fail_if_success (with_reducible show wpAny _ _ (exec (Stmt.For _ _ _ _ _) _) _ _ _)); (fail_if_success (with_reducible show wpAny _ _ (exec (Stmt.If _ _ _ _) _) _ _ _)); (fail_if_success (with_reducible show ∃ _, _)); (fail_if_success (with_reducible show wpAny _ _ (call (Value.ref _) _) _ _ _)); ((first | (k_unfold; (try dsimp only)) | walk1 | (dsimp only; walk1) | (leave1; (try dsimp only))))))
          · -- a quote
            have q34 : c = 34 := sgnT (k := 34) (x := Str.ofString "\"") (by decide) (by with_reducible assumption)
            subst q34
            (rename News _ _ _ _ => lN)
            (rename Fr _ _ _ _ => lF)
            have hrl : r.length ≤ 900 := by simp only [List.length_cons] at hlen'; omega
            have hrs : r <:+ l := (List.suffix_cons 34 r).trans hsuf
            have htq : tokL l = rdQ [] r := by rw [← htok]; simp [tokL, hw]
            refine wpAny_For ?_ (fun _ => rfl)
            walk1
            refine pyIter_ci (lN _ (.head _)).1 ?_
            (try dsimp only)
            refine for_rawJ (fun k s' => ∃ tok r', TokAt w a g L I q' t0 (fun l' => ln + l.count 10 - l'.count 10) s (liveO q' t0) tok r' s' ∧ r' <:+ r ∧ rdQ tok r' = rdQ [] r ∧ tok.length + r'.length ≤ r.length ∧ k = r'.length) ?_ r.length ?_
            case refine_2 => exact ⟨[], r, ⟨_, _, tl', _, n + 1, tt, _, rfl, fr_ch lF, lN, hv'⟩, List.suffix_refl _, rfl, by simp, rfl⟩
            clear lF lN
            rintro J1 hJ1 k s' ⟨tok, r', ⟨h, tk, tl, vs, n, tt, u, rfl, F, N, hv⟩, hsuf', hrd, htl, rfl⟩
            have hcnt3 : r'.count 10 ≤ l.count 10 := (hsuf'.trans hrs).sublist.count_le 10
            have hsz := sz_S (l := tok) (k := 1000) (by omega)
            have hsz0 : (S []).length ≤ 1000 := sz_S (l := []) (by decide)
            cases r' with
            | nil =>
              cases hv
              refine next_end ok B X T C hcg rfl rfl rfl rfl rfl (Nat.le_of_ble_eq_true rfl) (Nat.le_of_ble_eq_true rfl) hIq F N fun h' tk' F' N' => ?_
              dsimp only
              (repeat' ((fail_if_success (with_reducible show wpAny _ _ (exec (Stmt.For _ _ _ _ _) _) _ _ _)); (fail_if_success (with_reducible show wpAny _ _ (exec (Stmt.If _ _ _ _) _) _ _ _)); (fail_if_success (with_reducible show ∃ _, _)); (fail_if_success (with_reducible show wpAny _ _ (call (Value.ref _) _) _ _ _)); ((first | (k_unfold; (try dsimp only)) | walk1 | (dsimp only; walk1) | (leave1; (try dsimp only))))))
              exact ⟨0, Nat.zero_lt_succ _, hJ _ _ ⟨_, tok, [], ⟨_, _, tl, _, n, tt, u, rfl, F', N', .nil⟩, List.nil_suffix, .inr ⟨rfl, by rw [htq, ← hrd]; rfl, rfl⟩⟩⟩
            | cons c r' =>
              cases hv with
              | cons x tc hv' =>
                have hvl := sz_vs' hv'
                refine next_some ok B X T C hcg rfl rfl rfl rfl rfl (Nat.le_of_ble_eq_true rfl) (Nat.le_of_ble_eq_true rfl) ?_ ?_ F N fun t tl' h' tk' F' N' => ?_
                · simp only [List.length_cons] at htl; omega
                · simp only [List.count_cons] at hcnt3 ⊢; constructor <;> omega
                rw [lnf_step] at N'
                dsimp only
                dsimp only [itLed, lexLed, List.cons_append, List.nil_append] at N'
                clear N F
                (iterate 3 (first | (k_unfold; (try dsimp only)) | walk1 | (dsimp only; walk1) | (leave1; (try dsimp only)))); (try k_fold); (first | (k_unfold; (try dsimp only)) | walk1 | (dsimp only; walk1) | (leave1; (try dsimp only)))
                walk1
                (repeat' ((fail_if_success (with_reducible show wpAny _ _ (exec (Stmt.For _ _ _ _ _) _) _ _ _)); (fail_if_success (with_reducible show wpAny _ _ (exec (Stmt.If _ _ _ _) _) _ _ _)); (fail_if_success (with_reducible show ∃ _, _)); (fail_if_success (with_reducible show wpAny _ _ (call (Value.ref _) _) _ _ _)); ((first | (k_unfold; (try dsimp only)) | walk1 | (dsimp only; walk1) | (leave1; (try dsimp only))))))
                · have q34 : c = 34 := sgnT (k := 34) (x := Str.ofString "\"") (by decide) (by with_reducible assumption)
                  (rename News _ _ _ _ => lN)
                  (rename Fr _ _ _ _ => lF)
                  subst q34
                  exact hret _ _ _ (hkept.of_fr lF) (by rw [htq, ← hrd, rdQ_34]; exact ⟨⟨_, rfl⟩, tl', _, n + 1, hv', fun p hp => (lN p (.tail _ (.tail _ hp))).1⟩)
                · have q34 : c ≠ 34 := sgnF (k := 34) (x := Str.ofString "\"") (by decide) (by with_reducible assumption)
                  walk1
                  (repeat' ((fail_if_success (with_reducible show wpAny _ _ (exec (Stmt.For _ _ _ _ _) _) _ _ _)); (fail_if_success (with_reducible show wpAny _ _ (exec (Stmt.If _ _ _ _) _) _ _ _)); (fail_if_success (with_reducible show ∃ _, _)); (fail_if_success (with_reducible show wpAny _ _ (call (Value.ref _) _) _ _ _)); ((first | (k_unfold; (try dsimp only)) | walk1 | (dsimp only; walk1) | (leave1; (try dsimp only))))))
                  · have q92 : c = 92 := sgnT (k := 92) (x := Str.ofString "\\") (by decide) (by with_reducible assumption)
                    subst q92
                    (rename News _ _ _ _ => lN)
                    (rename Fr _ _ _ _ => lF)
                    cases r' with
                    | nil =>
                      cases hv'
                      refine (read0 ok).call (At.of B lF X T C lN lex_sub rfl rfl rfl rfl rfl (Nat.le_of_ble_eq_true rfl) (Nat.le_of_ble_eq_true rfl)) (hcg.keeps lF.keep) ?_
                      rintro r3 h3 tk3 hk3 ⟨⟨t3, rfl⟩, hg3⟩
                      have F3 := kept_fr_led hk3 lF lN lex_sub
                      have N3 := lex_news (pre := itLed I q' a (liveO q' t0)) lN hk3 hg3 it_fields
                      clear lF lN
                      dsimp only [itLed, lexLed, List.cons_append, List.nil_append] at N3
                      (try dsimp only)
                      (repeat' ((fail_if_success (with_reducible show wpAny _ _ (exec (Stmt.For _ _ _ _ _) _) _ _ _)); (fail_if_success (with_reducible show wpAny _ _ (exec (Stmt.If _ _ _ _) _) _ _ _)); (fail_if_success (with_reducible show ∃ _, _)); (fail_if_success (with_reducible show wpAny _ _ (call (Value.ref _) _) _ _ _)); ((first | (k_unfold; (try dsimp only)) | walk1 | (dsimp only; walk1) | (leave1; (try dsimp only))))))
                      (rename News _ _ _ _ => lN)
                      (rename Fr _ _ _ _ => lF)
                      obtain ⟨tt9, u9, F9⟩ : ∃ tt9 u9, Fr g L _ (tokM a I tok tt9 u9) := by
                        refine ⟨?t90, ?u90, Fr.congr lF (tokM_ext (tok := tok) (tt := tt) (u := u) ?a90 ⟨_, ?b90, (S_append tok []).trans (by rw [List.append_nil])⟩ ?c90)⟩
                        case a90 => with_unfolding_all rfl
                        case b90 => with_unfolding_all rfl
                        case c90 => intro y e1 e2; simp [e1, e2]
                      exact ⟨0, Nat.zero_lt_succ _, hJ1 _ _ ⟨tok, [], ⟨_, _, tl', _, _, _, _, rfl, F9, lN, .nil⟩, List.nil_suffix, by rw [← hrd, rdQ_92n], by simp only [List.length_cons, List.length_nil] at htl ⊢; omega, rfl⟩⟩
                    | cons d r2 =>
                      cases hv' with
                      | cons x td hv2 =>
                        have hvl2 := sz_vs' hv2
                        refine (read1 ?_ ?_ ok).call (At.of B lF X T C lN lex_sub rfl rfl rfl rfl rfl (Nat.le_of_ble_eq_true rfl) (Nat.le_of_ble_eq_true rfl)) (hcg.keeps lF.keep) ?_
                        · simp only [List.length_cons] at htl; omega
                        · simp only [List.count_cons] at hcnt3 ⊢; constructor <;> omega
                        rintro r3 h3 tk3 hk3 ⟨⟨t3, rfl⟩, tl3, hg3⟩
                        have F3 := kept_fr_led hk3 lF lN lex_sub
                        have N3 := lex_news (pre := itLed I q' a (liveO q' t0)) lN hk3 hg3 it_fields
                        rw [lnf_step'] at N3
                        clear lF lN
                        dsimp only [itLed, lexLed, List.cons_append, List.nil_append] at N3
                        (try dsimp only)
                        (repeat' ((fail_if_success (with_reducible show wpAny _ _ (exec (Stmt.For _ _ _ _ _) _) _ _ _)); (fail_if_success (with_reducible show wpAny _ _ (exec (Stmt.If _ _ _ _) _) _ _ _)); (fail_if_success (with_reducible show ∃ _, _)); (fail_if_success (with_reducible show wpAny _ _ (call (Value.ref _) _) _ _ _)); ((first | (k_unfold; (try dsimp only)) | walk1 | (dsimp only; walk1) | (leave1; (try dsimp only))))))
                        (rename News _ _ _ _ => lN)
                        (rename Fr _ _ _ _ => lF)
                        obtain ⟨tt9, u9, F9⟩ : ∃ tt9 u9, Fr g L _ (tokM a I (tok ++ [d]) tt9 u9) := by
                          refine ⟨?t91, ?u91, Fr.congr lF (tokM_ext (tok := tok) (tt := tt) (u := u) ?a91 ⟨_, ?b91, S_snoc tok d⟩ ?c91)⟩
                          case a91 => with_unfolding_all rfl
                          case b91 => with_unfolding_all rfl
                          case c91 => intro y e1 e2; simp [e1, e2]
                        exact ⟨r2.length, by simp only [List.length_cons]; omega, hJ1 _ _ ⟨tok ++ [d], r2, ⟨_, _, tl3, _, _, _, _, rfl, F9, lN, hv2⟩, ((List.suffix_cons d r2).trans (List.suffix_cons 92 _)).trans hsuf', by rw [← hrd, rdQ_92], by simp only [List.length_cons, List.length_append, List.length_nil] at htl ⊢; omega, rfl⟩⟩
                  · have q92 : c ≠ 92 := sgnF (k := 92) (x := Str.ofString "\\") (by decide) (by with_reducible assumption)
                    (rename News _ _ _ _ => lN)
                    (rename Fr _ _ _ _ => lF)
                    obtain ⟨tt9, u9, F9⟩ : ∃ tt9 u9, Fr g L _ (tokM a I (tok ++ [c]) tt9 u9) := by
                      refine ⟨?t92, ?u92, Fr.congr lF (tokM_ext (tok := tok) (tt := tt) (u := u) ?a92 ⟨_, ?b92, S_snoc tok c⟩ ?c92)⟩
                      case a92 => with_unfolding_all rfl
                      case b92 => with_unfolding_all rfl
                      case c92 => intro y e1 e2; simp [e1, e2]
                    exact ⟨r'.length, Nat.lt_succ_self _, hJ1 _ _ ⟨tok ++ [c], r', ⟨_, _, tl', _, _, _, _, rfl, F9, lN, hv'⟩, (List.suffix_cons c r').trans hsuf', by rw [← hrd, rdQ_c q34 q92], by simp only [List.length_cons, List.length_append, List.length_nil] at htl ⊢; omega, rfl⟩⟩
          · -- a bare word
            have q34 : c ≠ 34 := sgnF (k := 34) (x := Str.ofString "\"") (by decide) (by with_reducible assumption)
            have htb : tokL l = rdB [] (c :: r) := by rw [← htok]; simp [tokL, hw, q34]
            have hrl : r.length + 1 ≤ 900 := by simp only [List.length_cons] at hlen'; omega
            have hrs : r <:+ l := (List.suffix_cons c r).trans hsuf
            obtain ⟨Qm, hQi, hQo⟩ : ∃ Qm : Flow → Shared → Prop, (∀ f s', (f = .next ∧ ∃ x r' h tk tl vs n tt t, s' = { s with heap := h, toks := tk } ∧ Fr g L h (tokM a I [] tt (some (.str (S x) t))) ∧ News g L h (itLed I q' a (liveO q' t0) ++ lexLed w a (ln + l.count 10 - r'.count 10) tl vs n) ∧ StrsAre vs (r'.map sgn) ∧ r' <:+ l ∧ tokL l = rdB x r' ∧ x.length ≤ 1 ∧ r'.length + 1 ≤ 900) → Qm f s') ∧ (∀ f s', Qm f s' → (f = .next ∧ ∃ x r' h tk tl vs n tt t, s' = { s with heap := h, toks := tk } ∧ Fr g L h (tokM a I [] tt (some (.str (S x) t))) ∧ News g L h (itLed I q' a (liveO q' t0) ++ lexLed w a (ln + l.count 10 - r'.count 10) tl vs n) ∧ StrsAre vs (r'.map sgn) ∧ r' <:+ l ∧ tokL l = rdB x r' ∧ x.length ≤ 1 ∧ r'.length + 1 ≤ 900)) := ⟨_, fun _ _ h => h, fun _ _ h => h⟩
            refine wpAny_mono (Q := Qm) ?_ ?_ (fun _ _ x => x)
            · -- the first sign, or the one behind a backslash
              walk1
              (repeat' ((fail_if_success (with_reducible show _ ∧ ∃ _, _)); (fail_if_success (with_reducible show wpAny _ _ (call (Value.ref _) _) _ _ _)); ((first | (k_unfold; (try dsimp only)) | walk1 | (dsimp only; walk1) | (leave1; (try dsimp only))))))
              · have q92 : c = 92 := sgnT (k := 92) (x := Str.ofString "\\") (by decide) (by with_reducible assumption)
                subst q92
                (rename News _ _ _ _ => lN)
                (rename Fr _ _ _ _ => lF)
                dsimp only [List.append_nil]
                cases r with
                | nil =>
                  cases hv'
                  refine (read0 ok).call (At.of B lF X T C lN lex_sub rfl rfl rfl rfl rfl (Nat.le_of_ble_eq_true rfl) (Nat.le_of_ble_eq_true rfl)) (hcg.keeps lF.keep) ?_
                  rintro r3 h3 tk3 hk3 ⟨⟨t3, rfl⟩, hg3⟩
                  have F3 := kept_fr_led hk3 lF lN lex_sub
                  have N3 := lex_news (pre := itLed I q' a (liveO q' t0)) lN hk3 hg3 it_fields
                  clear lF lN
                  dsimp only [itLed, lexLed, List.cons_append, List.nil_append] at N3
                  (try dsimp only)
                  (repeat' ((fail_if_success (with_reducible show _ ∧ ∃ _, _)); (fail_if_success (with_reducible show wpAny _ _ (call (Value.ref _) _) _ _ _)); ((first | (k_unfold; (try dsimp only)) | walk1 | (dsimp only; walk1) | (leave1; (try dsimp only))))))
                  (rename News _ _ _ _ => lN)
                  (rename Fr _ _ _ _ => lF)
                  obtain ⟨tt9, t9, F9⟩ : ∃ tt9 t9, Fr g L _ (tokM a I [] tt9 (some (.str (S []) t9))) := by
                    refine ⟨?t920, ?u920, Fr.congr lF (tokM_ext (tok := []) (tt := tt) (u := u) ?a920 ⟨_, ?b920, rfl⟩ ?c920)⟩
                    case a920 => with_unfolding_all rfl
                    case b920 => with_unfolding_all rfl
                    case c920 => intro y e1 e2; simp [e1, e2]
                  exact hQi _ _ ⟨rfl, [], [], _, _, tl', _, _, _, _, rfl, F9, lN, .nil, List.nil_suffix, by rw [htb, rdB_92n], by decide, by decide⟩
                | cons d r2 =>
                  cases hv' with
                  | cons x td hv2 =>
                    have hvl2 := sz_vs' hv2
                    refine (read1 ?_ ?_ ok).call (At.of B lF X T C lN lex_sub rfl rfl rfl rfl rfl (Nat.le_of_ble_eq_true rfl) (Nat.le_of_ble_eq_true rfl)) (hcg.keeps lF.keep) ?_
                    · simp only [List.length_cons] at hrl; omega
                    · simp only [List.count_cons] at hcnt ⊢; constructor <;> omega
                    rintro r3 h3 tk3 hk3 ⟨⟨t3, rfl⟩, tl3, hg3⟩
                    have F3 := kept_fr_led hk3 lF lN lex_sub
                    have N3 := lex_news (pre := itLed I q' a (liveO q' t0)) lN hk3 hg3 it_fields
                    rw [lnf_step'] at N3
                    clear lF lN
                    dsimp only [itLed, lexLed, List.cons_append, List.nil_append] at N3
                    (try dsimp only)
                    (repeat' ((fail_if_success (with_reducible show _ ∧ ∃ _, _)); (fail_if_success (with_reducible show wpAny _ _ (call (Value.ref _) _) _ _ _)); ((first | (k_unfold; (try dsimp only)) | walk1 | (dsimp only; walk1) | (leave1; (try dsimp only))))))
                    (rename News _ _ _ _ => lN)
                    (rename Fr _ _ _ _ => lF)
                    obtain ⟨tt9, t9, F9⟩ : ∃ tt9 t9, Fr g L _ (tokM a I [] tt9 (some (.str (S [d]) t9))) := by
                      refine ⟨?t921, ?u921, Fr.congr lF (tokM_ext (tok := []) (tt := tt) (u := u) ?a921 ⟨_, ?b921, rfl⟩ ?c921)⟩
                      case a921 => with_unfolding_all rfl
                      case b921 => with_unfolding_all rfl
                      case c921 => intro y e1 e2; simp [e1, e2]
                    exact hQi _ _ ⟨rfl, [d], r2, _, _, tl3, _, _, _, _, rfl, F9, lN, hv2, (List.suffix_cons d r2).trans hrs, by rw [htb, rdB_92]; rfl, Nat.le_refl _, by simp only [List.length_cons] at hrl; omega⟩
              · have q92 : c ≠ 92 := sgnF (k := 92) (x := Str.ofString "\\") (by decide) (by with_reducible assumption)
                (rename News _ _ _ _ => lN)
                (rename Fr _ _ _ _ => lF)
                exact hQi _ _ ⟨rfl, [c], r, _, _, tl', _, _, _, _, rfl, fr_ch lF, lN, hv', hrs, by rw [htb, rdB_c hw q92]; rfl, Nat.le_refl _, hrl⟩
            · intro f s' hq
              obtain ⟨rfl, x, r1, h, tk, tl, vs, n, tt, t, rfl, F, N, hv, hrs1, htb1, hx1, hr1⟩ := hQo _ _ hq
              clear hQi hQo hq
              clear hv' hvl
              have hsz0 : (S []).length ≤ 1000 := sz_S (l := []) (by decide)
              have hszx : (S x).length ≤ 1000 := sz_S (by omega)
              dsimp only [itLed, lexLed, List.cons_append, List.nil_append] at N
              dsimp only
              (repeat' ((fail_if_success (with_reducible show wpAny _ _ (exec (Stmt.For _ _ _ _ _) _) _ _ _)); (fail_if_success (with_reducible show wpAny _ _ (exec (Stmt.If _ _ _ _) _) _ _ _)); (fail_if_success (with_reducible show ∃ _, _)); (fail_if_success (with_reducible show wpAny _ _ (call (Value.ref _) _) _ _ _)); ((first | (k_unfold; (try dsimp only)) | walk1 | (dsimp only; walk1) | (leave1; (try dsimp only))))))
              (rename News _ _ _ _ => lN)
              (rename Fr _ _ _ _ => lF)
              obtain ⟨tt9, u9, F9⟩ : ∃ tt9 u9, Fr g L _ (tokM a I x tt9 u9) := by
                refine ⟨?t922, ?u922, Fr.congr lF (tokM_ext (tok := []) (tt := tt) (u := (some (.str (S x) t))) ?a922 ⟨_, ?b922, (S_append [] x).trans (by rw [List.nil_append])⟩ ?c922)⟩
                case a922 => with_unfolding_all rfl
                case b922 => with_unfolding_all rfl
                case c922 => intro y e1 e2; simp [e1, e2]
              refine wpAny_For ?_ (fun _ => rfl)
              walk1
              refine pyIter_ci (lN _ (.head _)).1 ?_
              (try dsimp only)
              refine for_rawJ (fun k s' => ∃ tok r', TokAt w a g L I q' t0 (fun l' => ln + l.count 10 - l'.count 10) s (liveO q' t0) tok r' s' ∧ r' <:+ l ∧ tokL l = rdB tok r' ∧ tok.length + r'.length ≤ 900 ∧ k = r'.length) ?_ r1.length ?_
              case refine_2 => exact ⟨x, r1, ⟨_, _, tl, _, n, _, _, rfl, F9, lN, hv⟩, hrs1, htb1, by omega, rfl⟩
              clear lF lN F9
              clear hv
              rintro J1 hJ1 k s' ⟨tok, r', ⟨h, tk, tl, vs, n, tt, u, rfl, F, N, hv⟩, hsuf', hrd, htl, rfl⟩
              have hcnt3 : r'.count 10 ≤ l.count 10 := hsuf'.sublist.count_le 10
              have hsz := sz_S (l := tok) (k := 1000) (by omega)
              cases r' with
              | nil =>
                cases hv
                refine next_end ok B X T C hcg rfl rfl rfl rfl rfl (Nat.le_of_ble_eq_true rfl) (Nat.le_of_ble_eq_true rfl) hIq F N fun h' tk' F' N' => ?_
                dsimp only
                (repeat' ((fail_if_success (with_reducible show wpAny _ _ (exec (Stmt.For _ _ _ _ _) _) _ _ _)); (fail_if_success (with_reducible show wpAny _ _ (exec (Stmt.If _ _ _ _) _) _ _ _)); (fail_if_success (with_reducible show ∃ _, _)); (fail_if_success (with_reducible show wpAny _ _ (call (Value.ref _) _) _ _ _)); ((first | (k_unfold; (try dsimp only)) | walk1 | (dsimp only; walk1) | (leave1; (try dsimp only))))))
                exact ⟨0, Nat.zero_lt_succ _, hJ _ _ ⟨_, tok, [], ⟨_, _, tl, _, n, tt, u, rfl, F', N', .nil⟩, List.nil_suffix, .inr ⟨rfl, hrd, rfl⟩⟩⟩
              | cons c r' =>
                cases hv with
                | cons x tc hv' =>
                  have hvl := sz_vs' hv'
                  refine next_some ok B X T C hcg rfl rfl rfl rfl rfl (Nat.le_of_ble_eq_true rfl) (Nat.le_of_ble_eq_true rfl) ?_ ?_ F N fun t tl' h' tk' F' N' => ?_
                  · simp only [List.length_cons] at htl; omega
                  · simp only [List.count_cons] at hcnt3 ⊢; constructor <;> omega
                  rw [lnf_step] at N'
                  dsimp only
                  dsimp only [itLed, lexLed, List.cons_append, List.nil_append] at N'
                  clear N F
                  (iterate 3 (first | (k_unfold; (try dsimp only)) | walk1 | (dsimp only; walk1) | (leave1; (try dsimp only)))); (try k_fold); (first | (k_unfold; (try dsimp only)) | walk1 | (dsimp only; walk1) | (leave1; (try dsimp only)))
                  walk1
                  (repeat' ((fail_if_success (with_reducible show wpAny _ _ (exec (Stmt.For _ _ _ _ _) _) _ _ _)); (fail_if_success (with_reducible show wpAny _ _ (exec (Stmt.If _ _ _ _) _) _ _ _)); (fail_if_success (with_reducible show ∃ _, _)); (fail_if_success (with_reducible show wpAny _ _ (call (Value.ref _) _) _ _ _)); ((first | (k_unfold; (try dsimp only)) | walk1 | (dsimp only; walk1) | (leave1; (try dsimp only))))))
                  · have hw := ws_f ‹_›
                    walk1
                    (repeat' ((fail_if_success (with_reducible show wpAny _ _ (exec (Stmt.For _ _ _ _ _) _) _ _ _)); (fail_if_success (with_reducible show wpAny _ _ (exec (Stmt.If _ _ _ _) _) _ _ _)); (fail_if_success (with_reducible show ∃ _, _)); (fail_if_success (with_reducible show wpAny _ _ (call (Value.ref _) _) _ _ _)); ((first | (k_unfold; (try dsimp only)) | walk1 | (dsimp only; walk1) | (leave1; (try dsimp only))))))
                    · have q92 : c = 92 := sgnT (k := 92) (x := Str.ofString "\\") (by decide) (by with_reducible assumption)
                      subst q92
                      (rename News _ _ _ _ => lN)
                      (rename Fr _ _ _ _ => lF)
                      cases r' with
                      | nil =>
                        cases hv'
                        refine (read0 ok).call (At.of B lF X T C lN lex_sub rfl rfl rfl rfl rfl (Nat.le_of_ble_eq_true rfl) (Nat.le_of_ble_eq_true rfl)) (hcg.keeps lF.keep) ?_
                        rintro r3 h3 tk3 hk3 ⟨⟨t3, rfl⟩, hg3⟩
                        have F3 := kept_fr_led hk3 lF lN lex_sub
                        have N3 := lex_news (pre := itLed I q' a (liveO q' t0)) lN hk3 hg3 it_fields
                        clear lF lN
                        dsimp only [itLed, lexLed, List.cons_append, List.nil_append] at N3
                        (try dsimp only)
                        (repeat' ((fail_if_success (with_reducible show wpAny _ _ (exec (Stmt.For _ _ _ _ _) _) _ _ _)); (fail_if_success (with_reducible show wpAny _ _ (exec (Stmt.If _ _ _ _) _) _ _ _)); (fail_if_success (with_reducible show ∃ _, _)); (fail_if_success (with_reducible show wpAny _ _ (call (Value.ref _) _) _ _ _)); ((first | (k_unfold; (try dsimp only)) | walk1 | (dsimp only; walk1) | (leave1; (try dsimp only))))))
                        (rename News _ _ _ _ => lN)
                        (rename Fr _ _ _ _ => lF)
                        obtain ⟨tt9, u9, F9⟩ : ∃ tt9 u9, Fr g L _ (tokM a I tok tt9 u9) := by
                          refine ⟨?t923, ?u923, Fr.congr lF (tokM_ext (tok := tok) (tt := tt) (u := u) ?a923 ⟨_, ?b923, (S_append tok []).trans (by rw [List.append_nil])⟩ ?c923)⟩
                          case a923 => with_unfolding_all rfl
                          case b923 => with_unfolding_all rfl
                          case c923 => intro y e1 e2; simp [e1, e2]
                        exact ⟨0, Nat.zero_lt_succ _, hJ1 _ _ ⟨tok, [], ⟨_, _, tl', _, _, _, _, rfl, F9, lN, .nil⟩, List.nil_suffix, by rw [hrd, rdB_92n'], by simp only [List.length_cons, List.length_nil] at htl ⊢; omega, rfl⟩⟩
                      | cons d r2 =>
                        cases hv' with
                        | cons x td hv2 =>
                          have hvl2 := sz_vs' hv2
                          refine (read1 ?_ ?_ ok).call (At.of B lF X T C lN lex_sub rfl rfl rfl rfl rfl (Nat.le_of_ble_eq_true rfl) (Nat.le_of_ble_eq_true rfl)) (hcg.keeps lF.keep) ?_
                          · simp only [List.length_cons] at htl; omega
                          · simp only [List.count_cons] at hcnt3 ⊢; constructor <;> omega
                          rintro r3 h3 tk3 hk3 ⟨⟨t3, rfl⟩, tl3, hg3⟩
                          have F3 := kept_fr_led hk3 lF lN lex_sub
                          have N3 := lex_news (pre := itLed I q' a (liveO q' t0)) lN hk3 hg3 it_fields
                          rw [lnf_step'] at N3
                          clear lF lN
                          dsimp only [itLed, lexLed, List.cons_append, List.nil_append] at N3
                          (try dsimp only)
                          (repeat' ((fail_if_success (with_reducible show wpAny _ _ (exec (Stmt.For _ _ _ _ _) _) _ _ _)); (fail_if_success (with_reducible show wpAny _ _ (exec (Stmt.If _ _ _ _) _) _ _ _)); (fail_if_success (with_reducible show ∃ _, _)); (fail_if_success (with_reducible show wpAny _ _ (call (Value.ref _) _) _ _ _)); ((first | (k_unfold; (try dsimp only)) | walk1 | (dsimp only; walk1) | (leave1; (try dsimp only))))))
                          (rename News _ _ _ _ => lN)
                          (rename Fr _ _ _ _ => lF)
                          obtain ⟨tt9, u9, F9⟩ : ∃ tt9 u9, Fr g L _ (tokM a I (tok ++ [d]) tt9 u9) := by
                            refine ⟨?t924, ?u924, Fr.congr lF (tokM_ext (tok := tok) (tt := tt) (u := u) ?a924 ⟨_, ?b924, S_snoc tok d⟩ ?c924)⟩
                            case a924 => with_unfolding_all rfl
                            case b924 => with_unfolding_all rfl
                            case c924 => intro y e1 e2; simp [e1, e2]
                          exact ⟨r2.length, by simp only [List.length_cons]; omega, hJ1 _ _ ⟨tok ++ [d], r2, ⟨_, _, tl3, _, _, _, _, rfl, F9, lN, hv2⟩, ((List.suffix_cons d r2).trans (List.suffix_cons 92 _)).trans hsuf', by rw [hrd, rdB_92], by simp only [List.length_cons, List.length_append, List.length_nil] at htl ⊢; omega, rfl⟩⟩
                    · have q92 : c ≠ 92 := sgnF (k := 92) (x := Str.ofString "\\") (by decide) (by with_reducible assumption)
                      (rename News _ _ _ _ => lN)
                      (rename Fr _ _ _ _ => lF)
                      obtain ⟨tt9, u9, F9⟩ : ∃ tt9 u9, Fr g L _ (tokM a I (tok ++ [c]) tt9 u9) := by
                        refine ⟨?t925, ?u925, Fr.congr lF (tokM_ext (tok := tok) (tt := tt) (u := u) ?a925 ⟨_, ?b925, S_snoc tok c⟩ ?c925)⟩
                        case a925 => with_unfolding_all rfl
                        case b925 => with_unfolding_all rfl
                        case c925 => intro y e1 e2; simp [e1, e2]
                      exact ⟨r'.length, Nat.lt_succ_self _, hJ1 _ _ ⟨tok ++ [c], r', ⟨_, _, tl', _, _, _, _, rfl, F9, lN, hv'⟩, (List.suffix_cons c r').trans hsuf', by rw [hrd, rdB_c hw q92], by simp only [List.length_cons, List.length_append, List.length_nil] at htl ⊢; omega, rfl⟩⟩
                  · have hw := ws_t ‹_›
                    (rename News _ _ _ _ => lN)
                    (rename Fr _ _ _ _ => lF)
                    exact hret _ _ _ (hkept.of_fr lF) (by rw [hrd, rdB_w hw]; exact ⟨⟨_, rfl⟩, tl', _, n + 1, hv', fun p hp => (lN p (.tail _ (.tail _ hp))).1⟩)
        · -- a white sign
          have hw := ws_t ‹_›
          (rename News _ _ _ _ => lN)
          (rename Fr _ _ _ _ => lF)
          exact ⟨r.length + 1, Nat.lt_succ_self _, hJ _ _ ⟨_, [], r, ⟨_, _, tl', _, n + 1, tt, _, rfl, fr_ch lF, lN, hv'⟩, (List.suffix_cons c r).trans hsuf, .inl ⟨rfl, rfl, by rw [← htok]; simp [tokL, hw], rfl⟩⟩⟩
  · refine next_dead rfl F N fun h' F' N' => ?_
    dsimp only
    repeat (first | (k_unfold; (try dsimp only)) | walk1 | (dsimp only; walk1) | (leave1; (try dsimp only)))
    exact hret _ _ _ (hkept.of_fr F') (by rw [htok]; exact ⟨⟨_, rfl⟩, tl, _, n, hv, fun p hp => (N' p (List.mem_append_right _ hp)).1⟩)
end Mine
end
section
open PySem PySem.W PyProof.Rows PySem.Calls
namespace Mine
set_option pp.deepTerms false
set_option pp.deepTerms.threshold 8
set_option pp.maxSteps 3000
/-- a lexer's parts but the signs -/
abbrev lexParts (w : World) (a : LexA) (ln : Int) (tl : Tok) : List (Addr × Obj) := (lexLed w a ln tl [] 0).take 7
abbrev tabHit (c : Addr) : Obj := tabObj #[rawInt 85, rawInt 16, .ref c]
/-- what the maker of lexers gives -/
def LexMade (w : World) (sg : Addr) (r : Value) (h h' : Heap) : Prop :=
  ∃ a : LexA, ∃ tl, r = .ref a.x ∧ a.sg = sg ∧ LexOk a ∧ (∀ p ∈ lexParts w a 1 tl, h'.get? p.1 = some p.2) ∧ (∀ p ∈ lexParts w a 1 tl, h.get? p.1 = none) ∧ h'.get? 77 = some (tabHit a.c) ∧ h'.CodeRec (.ref a.c) lamQual
/-- the same, and the lambda's code is new or was there -/
def LexMade2 (w : World) (sg : Addr) (r : Value) (h h' : Heap) : Prop :=
  ∃ a : LexA, ∃ tl, (r = .ref a.x ∧ a.sg = sg ∧ LexOk a ∧ (∀ p ∈ lexParts w a 1 tl, h'.get? p.1 = some p.2) ∧ (∀ p ∈ lexParts w a 1 tl, h.get? p.1 = none) ∧ h'.get? 77 = some (tabHit a.c) ∧ h'.CodeRec (.ref a.c) lamQual) ∧ (h.get? a.c = none ∨ h.get? 77 = some (tabHit a.c))
theorem LexMade2.made {w : World} {sg : Addr} {r : Value} {h h' : Heap} : LexMade2 w sg r h h' → LexMade w sg r h h' := fun ⟨a, tl, x, _⟩ => ⟨a, tl, x⟩
theorem fresh_up {h g : Heap} {b : Addr} (k : Kept [77] h g) (hb : @LT.lt Nat _ 77 b) (e : g.get? b = none) : h.get? b = none := by
  cases q : h.get? b with
  | none => rfl
  | some o =>
    have := k b o q (fun hm => absurd (List.mem_singleton.mp hm) (fun z : b = 77 => by subst z; exact Nat.lt_irrefl _ hb)); rw [e] at this; cases this
theorem lex_made {w : World} {h g h' : Heap} {sg x d pb tx td tpb f c ce : Addr} {k1 k2 k3 k4 j1 j2 j3 j4 j5 tw jw ji tl : Tok} {pm ct : Value} {oce : Obj} (hoce : oce.data = .cell (some (.ref sg)))
    (e1 : h'.get? pb = some (listOf #[] 0)) (e2 : h'.get? x = some (instObj 59 d))
    (e3 : h'.get? d = some (dictOf [{ hash := PyData.keyHash w.params (Str.ofString "lineno"), key := .str (Str.ofString "lineno") k1, val := .int 1 tl },
                { hash := PyData.keyHash w.params (Str.ofString "instream"), key := .str (Str.ofString "instream") k2, val := .ref tx },
                { hash := PyData.keyHash w.params (Str.ofString "whitespace"), key := .str (Str.ofString "whitespace") k3, val := .str wsStr tw },
                { hash := PyData.keyHash w.params (Str.ofString "pushback"), key := .str (Str.ofString "pushback") k4, val := .ref pb }] 4))
    (e4 : h'.get? f = some (kla_obj (Str.ofString "<lambda>") lamQual lamParams lamBody lamScope [(Str.ofString "signs", ce)] pm c ct))
    (e7 : h'.get? tx = some (instObj 59 td))
    (e8 : h'.get? td = some (dictOf [{ hash := PyData.keyHash w.params (Str.ofString "lineno"), key := .str (Str.ofString "lineno") j1, val := .int 1 ji },
                { hash := PyData.keyHash w.params (Str.ofString "instream"), key := .str (Str.ofString "instream") j2, val := .none },
                { hash := PyData.keyHash w.params (Str.ofString "whitespace"), key := .str (Str.ofString "whitespace") j3, val := .str wsStr jw },
                { hash := PyData.keyHash w.params (Str.ofString "pushback"), key := .str (Str.ofString "pushback") j4, val := .ref tpb },
                { hash := PyData.keyHash w.params (Str.ofString "read"), key := .str (Str.ofString "read") j5, val := .ref f }] 5))
    (e9 : h'.get? ce = some oce) (e10 : h'.get? 77 = some (tabHit c)) (hc : h'.CodeRec (.ref c) lamQual)
    (o0 : @LT.lt Nat _ 77 ce) (o1 : @LT.lt Nat _ sg ce) (o2 : @LT.lt Nat _ ce td) (o3 : @LT.lt Nat _ td tx) (o4 : @LT.lt Nat _ tx f) (o5 : @LT.lt Nat _ f d) (o6 : @LT.lt Nat _ d x) (o7 : @LT.lt Nat _ x pb)
    (k : Kept [77] h g) (n1 : g.get? pb = none) (n2 : g.get? x = none) (n3 : g.get? d = none) (n4 : g.get? f = none) (n7 : g.get? tx = none) (n8 : g.get? td = none) (n9 : g.get? ce = none) (hf : h.get? c = none ∨ h.get? 77 = some (tabHit c)) : LexMade2 w sg (.ref x) h h' := by
  have fr : ∀ b : Addr, @LT.lt Nat _ 77 b → g.get? b = none → h.get? b = none := fun b hb e => fresh_up k hb e
  refine ⟨⟨x, d, pb, tx, td, tpb, f, c, ce, sg, k1, k2, k3, k4, j1, j2, j3, j4, j5, tw, jw, ji, pm, ct, oce, hoce⟩, tl, ⟨rfl, rfl, ⟨o1, o2, o3, o4, o5, o6, o7⟩, ?_, ?_, e10, hc⟩, hf⟩
  · exact List.forall_mem_cons.mpr ⟨e2, List.forall_mem_cons.mpr ⟨e3, List.forall_mem_cons.mpr ⟨e1, List.forall_mem_cons.mpr ⟨e7, List.forall_mem_cons.mpr ⟨e8, List.forall_mem_cons.mpr ⟨e4, List.forall_mem_cons.mpr ⟨e9, List.forall_mem_nil _⟩⟩⟩⟩⟩⟩⟩
  · exact List.forall_mem_cons.mpr ⟨fr x (by omega) n2, List.forall_mem_cons.mpr ⟨fr d (by omega) n3, List.forall_mem_cons.mpr ⟨fr pb (by omega) n1, List.forall_mem_cons.mpr ⟨fr tx (by omega) n7, List.forall_mem_cons.mpr ⟨fr td (by omega) n8, List.forall_mem_cons.mpr ⟨fr f (by omega) n4, List.forall_mem_cons.mpr ⟨fr ce o0 n9, List.forall_mem_nil _⟩⟩⟩⟩⟩⟩⟩
set_option maxRecDepth 100000 in
set_option maxHeartbeats 8000000 in
theorem lexer_miss {w : World} {sg : Addr} : ToldP w 82 [.ref sg] [(77, tabObj #[])] 600 6000 (fun h => ∃ o, h.get? sg = some o) (fun r h h' => LexMade2 w sg r h h') := by
  w_top off
  intro A s R H ⟨osg, hsg⟩ hret
  have hk : (hd.heap_39 w.params).In s.heap → True := fun _ => trivial
  revert hk
  k_fill
  intro _
  ((k_dflt (refine' enterC ‹At _ _ _ _ _ _› ?kd ?k6 ?k7 ?k9 ?kB ?kD ?_ ?c2 ?c3 ?c4; (case kd => decide); (case k6 => k_is); (case k7 => k_is); (case k9 => exact BindsTo.of_eq rfl); (case kB => exact rfl); (case kD => decide +kernel); (case c2 => exact rfl); (case c3 => exact rfl); (case c4 => exact rfl))))
  intro A₀ base outer g h₁ L tk cells p loose mean mg mb hkept hgs hL F N Y hlt B X T C
  have hsgL : @LT.lt Nat _ sg L := by rw [hL]; exact Heap.lt_size hsg
  k_lt hlt
  k_cells Y
  (try simp only [List.cons_append, List.nil_append] at N)
  (try dsimp only)
  (try k_unmd)
  (try k_fold)
  repeat (first | (k_unfold; (try dsimp only)) | walk1 | (dsimp only; walk1) | (leave1; (try dsimp only)))
  (rename News _ _ _ _ => lN)
  (rename Fr _ _ _ _ => lF)
  have e1 := lN _ (.head _)
  have e2 := lN _ (.tail _ (.head _))
  have e3 := lN _ (.tail _ (.tail _ (.head _)))
  have e4 := lN _ (.tail _ (.tail _ (.tail _ (.head _))))
  have e5 := lN _ (.tail _ (.tail _ (.tail _ (.tail _ (.head _)))))
  have e7 := lN _ (.tail _ (.tail _ (.tail _ (.tail _ (.tail _ (.tail _ (.head _)))))))
  have e8 := lN _ (.tail _ (.tail _ (.tail _ (.tail _ (.tail _ (.tail _ (.tail _ (.head _))))))))
  have e9 := lN _ (.tail _ (.tail _ (.tail _ (.tail _ (.tail _ (.tail _ (.tail _ (.tail _ (.head _)))))))))
  have e10 := lN _ (.tail _ (.tail _ (.tail _ (.tail _ (.tail _ (.tail _ (.tail _ (.tail _ (.tail _ (.head _))))))))))
  exact hret _ _ _ (hkept.of_fr lF) (lex_made (by assumption) e1.1 e2.1 e3.1 e4.1 e7.1 e8.1 e9.1 e10.1 ⟨_, _, _, _, rfl, e5.1, by assumption, by assumption⟩ (by omega) (by omega) (by omega) (by omega) (by omega) (by omega) (by omega) (by omega) hkept e1.2.2 e2.2.2 e3.2.2 e4.2.2 e7.2.2 e8.2.2 e9.2.2 (.inl (fresh_up hkept (by omega) e5.2.2)))
set_option maxRecDepth 100000 in
set_option maxHeartbeats 8000000 in
theorem lexer_hit {w : World} {sg c : Addr} : ToldP w 82 [.ref sg] [(77, tabHit c)] 600 6000 (fun h => (∃ o, h.get? sg = some o) ∧ h.CodeRec (.ref c) lamQual) (fun r h h' => LexMade2 w sg r h h') := by
  w_top off
  intro A s R H ⟨⟨osg, hsg⟩, hcd⟩ hret
  have hcg : ∀ g : Heap, Kept [77] s.heap g → g.CodeRec (.ref c) lamQual := fun g k => by
    obtain ⟨c', oc, vs, t, e1, e2, e3, e4⟩ := hcd
    refine ⟨c', oc, vs, t, e1, k _ _ e2 fun hm => ?_, e3, e4⟩
    have e5 := H.news _ (List.Mem.head _)
    rw [← List.mem_singleton.mp hm, e2] at e5
    have e6 := Option.some.inj e5
    rw [e6] at e3
    cases e3
    cases e4
  have hk : (hd.heap_39 w.params).In s.heap → True := fun _ => trivial
  revert hk
  k_fill
  intro _
  ((k_dflt (refine' enterC ‹At _ _ _ _ _ _› ?kd ?k6 ?k7 ?k9 ?kB ?kD ?_ ?c2 ?c3 ?c4; (case kd => decide); (case k6 => k_is); (case k7 => k_is); (case k9 => exact BindsTo.of_eq rfl); (case kB => exact rfl); (case kD => decide +kernel); (case c2 => exact rfl); (case c3 => exact rfl); (case c4 => exact rfl))))
  intro A₀ base outer g h₁ L tk cells p loose mean mg mb hkept hgs hL F N Y hlt B X T C
  have hsgL : @LT.lt Nat _ sg L := by rw [hL]; exact Heap.lt_size hsg
  k_lt hlt
  k_cells Y
  (try simp only [List.cons_append, List.nil_append] at N)
  (try dsimp only)
  (try k_unmd)
  (try k_fold)
  repeat (first | (k_unfold; (try dsimp only)) | walk1 | (dsimp only; walk1) | (leave1; (try dsimp only)))
  (rename News _ _ _ _ => lN)
  (rename Fr _ _ _ _ => lF)
  have e1 := lN _ (.head _)
  have e2 := lN _ (.tail _ (.head _))
  have e3 := lN _ (.tail _ (.tail _ (.head _)))
  have e4 := lN _ (.tail _ (.tail _ (.tail _ (.head _))))
  have e7 := lN _ (.tail _ (.tail _ (.tail _ (.tail _ (.tail _ (.head _))))))
  have e8 := lN _ (.tail _ (.tail _ (.tail _ (.tail _ (.tail _ (.tail _ (.head _)))))))
  have e9 := lN _ (.tail _ (.tail _ (.tail _ (.tail _ (.tail _ (.tail _ (.tail _ (.head _))))))))
  have e10 := lN _ (.tail _ (.tail _ (.tail _ (.tail _ (.tail _ (.tail _ (.tail _ (.tail _ (.head _)))))))))
  exact hret _ _ _ (hkept.of_fr lF) (lex_made (by assumption) e1.1 e2.1 e3.1 e4.1 e7.1 e8.1 e9.1 e10.1 ((hcg g hkept).keeps lF.keep) (by omega) (by omega) (by omega) (by omega) (by omega) (by omega) (by omega) (by omega) hkept e1.2.2 e2.2.2 e3.2.2 e4.2.2 e7.2.2 e8.2.2 e9.2.2 (.inr (H.news _ (.head _))))
end Mine
end
section
open PySem PySem.W PyProof.Rows PySem.Calls
namespace Mine
theorem foldl_snoc (l : List Nat) (c : Nat) : (l ++ [c]).foldl pstep pinit = pstep (l.foldl pstep pinit) c := by rw [List.foldl_append]; rfl
/-- a sign that is neither a quote, a backslash nor a comma stands in the last part -/
theorem pstep_plain {c : PS} {n : Nat} (h1 : n ≠ 34) (h2 : n ≠ 92) (h3 : n ≠ 44) : pstep c n = { c with part := c.part ++ [n], esc := false } := by
  obtain ⟨res, part, esc, quo⟩ := c
  cases esc <;> cases quo <;> simp [pstep, h1, h2, h3]
theorem parseL_x (m : List Nat) : parseL (m ++ [120]) = (m.foldl pstep pinit).res.map stripL ++ [stripL ((m.foldl pstep pinit).part ++ [120])] := by
  unfold parseL
  rw [foldl_snoc, pstep_plain (by decide) (by decide) (by decide)]
  simp [pfin]
theorem strs_snoc_inv {vs : List Value} {ws : List Str} {x : Str} (h : StrsAre vs (ws ++ [x])) : ∃ vs' t, vs = vs' ++ [.str x t] ∧ StrsAre vs' ws := by
  induction ws generalizing vs with
  | nil => cases h with | cons _ t h => cases h; exact ⟨[], t, rfl, .nil⟩
  | cons y ws ih => cases h with | cons _ t h => obtain ⟨vs', t', rfl, h'⟩ := ih h; exact ⟨.str y t :: vs', t', rfl, .cons _ _ h'⟩
section
variable {prog : Program} {w : World} {A : Around} {E : Value → Shared → Prop} {s : Shared} {Q : Value → Shared → Prop} {value slice : Expr} {a : Addr} {u : Tok}
theorem item_last {vs : List Value} {v : Value} (hl : s.heap.IsList a (vs ++ [v]).toArray) (h : Q v s)
    (hs : subscripted slice false (.ref a) (.int (-1) u) = operate [.ref a, .int (-1) u] (getItem (.ref a) (.int (-1) u)) := by with_unfolding_all rfl) :
    wpAny (model prog w) A (subscriptTail value slice (.ref a) (.int (-1) u)) Q E s := by
  have e : ((-1 : Int) + ((vs ++ [v]).toArray.size : Nat)).toNat = vs.length := by simp; omega
  exact tail_any hl.typeIs slot_list_getitem.lookup (wpAny_getItem_list_neg hl (by decide) (by simp; omega) (by decide) (by rw [e]; simp) h) hs
theorem item_first {vs : List Value} {v : Value} (hl : s.heap.IsList a (v :: vs).toArray) (h : Q v s)
    (hs : subscripted slice false (.ref a) (.int 0 u) = operate [.ref a, .int 0 u] (getItem (.ref a) (.int 0 u)) := by with_unfolding_all rfl) :
    wpAny (model prog w) A (subscriptTail value slice (.ref a) (.int 0 u)) Q E s :=
  tail_any hl.typeIs slot_list_getitem.lookup (wpAny_getItem_list hl (by decide) (by decide) (by simp) h) hs
end
end Mine
namespace Mine
def cut (l : List Nat) (a b : Nat) : List Nat := (l.drop a).take (b - a)
theorem S_list (l : List Nat) : (S l).cps.toList = l := by simp [S]
theorem slice_cut {l : List Nat} {a b : Nat} (hab : a ≤ b) (hb : b ≤ l.length) : Txt.slice (S l) (some (a : Int)) (some (b : Int)) = S (cut l a b) := by
  have h := StrLaws.sliceText_nat (S l) hab (by rw [S_length]; exact hb)
  rw [S_list] at h
  exact h
theorem slice_from {l : List Nat} {a : Nat} (ha : a ≤ l.length) : Txt.slice (S l) (some (a : Int)) none = S (l.drop a) := by
  have h := StrLaws.sliceText_from (x := S l) (i := (a : Int)) (by rw [S_list]; omega)
  rw [S_list] at h
  refine Eq.trans h ?_
  unfold S
  congr 2
  rw [Int.toNat_natCast]
  rw [List.take_of_length_le]
  simp
theorem slice_to {l : List Nat} {b : Nat} (hb : b ≤ l.length) : Txt.slice (S l) none (some (b : Int)) = S (l.take b) := by
  have h := StrLaws.sliceText_to (x := S l) (j := (b : Int)) (by rw [S_list]; omega)
  rw [S_list] at h
  refine Eq.trans h ?_
  unfold S
  simp
theorem slice_inner (w : List Nat) : Txt.slice (S w) (some 1) (some (-1)) = S ((w.drop 1).dropLast) := by
  match w with
  | [] => decide
  | [c] => rfl
  | c :: d :: r =>
    have h0 := StrLaws.sliceText_neg_hi (S (c :: d :: r)) (some 1) (j := -1) (by decide) (by rw [S_length]; simp; omega)
    have e : (-1 : Int) + ((S (c :: d :: r)).length : Nat) = ((r.length + 1 : Nat) : Int) := by rw [S_length]; simp; omega
    rw [e] at h0
    have h := StrLaws.sliceText_nat (S (c :: d :: r)) (a := 1) (b := r.length + 1) (by omega) (by rw [S_length]; simp)
    refine Eq.trans h0 (Eq.trans h ?_)
    rw [S_list]
    unfold S
    simp [List.dropLast_eq_take]
theorem slice_init (w : List Nat) : Txt.slice (S w) none (some (-1)) = S w.dropLast := by
  match w with
  | [] => decide
  | c :: r =>
    have h0 := StrLaws.sliceText_neg_hi (S (c :: r)) none (j := -1) (by decide) (by rw [S_length]; simp; omega)
    have e : (-1 : Int) + ((S (c :: r)).length : Nat) = ((r.length : Nat) : Int) := by rw [S_length]; simp; omega
    rw [e] at h0
    refine Eq.trans h0 ?_
    have h := slice_to (l := c :: r) (b := r.length) (by simp)
    refine Eq.trans h ?_
    rw [List.dropLast_eq_take]; simp
theorem item_S {l : List Nat} {i : Int} {k : Nat} (hi : i = (k : Int)) {c : Nat} (h : l[k]? = some c) : Txt.item (S l) i = ⟨#[c]⟩ := by
  subst hi
  have h1 : (S l).cps[((k : Int)).toNat]? = some c := by simp [S, h]
  have := StrLaws.at_nonneg (x := S l) (i := (k : Int)) (by omega) h1
  unfold Txt.item Txt.charAt
  rw [this]; rfl
theorem pstep_some {c : PS} (n : Nat) (h : c.res ≠ [] ∨ c.part ≠ []) : (pstep c n).res ≠ [] ∨ (pstep c n).part ≠ [] := by
  unfold pstep; repeat' split
  all_goals first | exact h | (right; simp; done) | (left; simp; done)
theorem fold_some (m : List Nat) : ∀ {c : PS}, (c.res ≠ [] ∨ c.part ≠ []) → (m.foldl pstep c).res ≠ [] ∨ (m.foldl pstep c).part ≠ [] := by
  induction m with
  | nil => exact fun h => h
  | cons n m ih => exact fun h => ih (pstep_some n h)
theorem parseL_ne {c : Nat} {m : List Nat} (h : c = 34) : parseL (c :: m) ≠ [] := by
  subst h
  have := fold_some m (c := pstep pinit 34) (.inr (by decide))
  unfold parseL pfin
  rw [List.foldl_cons]
  split
  · rename_i hp
    rcases this with h | h
    · simpa using h
    · exact absurd hp h
  · simp
end Mine
namespace Mine
theorem stripL_len (l : List Nat) : (stripL l).length ≤ l.length := by
  have h := len_strip (S l)
  rw [S_length, strip_S, S_length] at h
  exact h
theorem fold_len (m : List Nat) : ∀ (c : PS) (k : Nat), c.part.length ≤ k → (∀ q ∈ c.res, q.length ≤ k) → (m.foldl pstep c).part.length ≤ k + m.length ∧ ∀ q ∈ (m.foldl pstep c).res, q.length ≤ k + m.length := by
  induction m with
  | nil => exact fun c k h1 h2 => ⟨h1, h2⟩
  | cons n m ih =>
    intro c k h1 h2
    have h := ih (pstep c n) (k + 1) (Nat.le_trans (pstep_part c n) (by omega)) (pstep_all c n k h1 h2)
    simp only [List.length_cons, List.foldl_cons]
    exact ⟨by have := h.1; omega, fun q hq => by have := h.2 q hq; omega⟩
theorem parse_len {m : List Nat} : ∀ q ∈ parseL m, q.length ≤ m.length := by
  intro q hq
  have h := fold_len m pinit 0 (by decide) (fun _ h => nomatch h)
  unfold parseL pfin at hq
  obtain ⟨q', hq', rfl⟩ := List.mem_map.mp hq
  refine Nat.le_trans (stripL_len q') ?_
  split at hq'
  · have := h.2 q' hq'; omega
  · rcases List.mem_append.mp hq' with hq' | hq'
    · have := h.2 q' hq'; omega
    · rw [List.mem_singleton.mp hq']; have := h.1; omega
end Mine
end
section
open PySem PySem.W PyProof.Rows PySem.Calls
namespace Mine
set_option pp.deepTerms false
set_option pp.deepTerms.threshold 8
set_option pp.maxSteps 3000
def IsParse (l : List Nat) (r : Value) (h h' : Heap) : Prop := ∃ a vs n, r = .ref a ∧ h.get? a = none ∧ h'.get? a = some (listOf (List.toArray vs) n) ∧ StrsAre vs ((parseL l).map S)
theorem parse_S {w : World} {x : Str} {l : List Nat} {t : Tok} (hx : x = S l) (hl : l.length < 1000) : Told w 68 [.str x t] [] 800 8000 (IsParse l) := by
  subst hx
  have h := parse_told (w := w) (x := S l) (t := t) (by rw [S_length]; exact hl)
  have e : (S l).cps.toList = l := by simp [S]
  rw [e] at h
  exact h
theorem lit_x : Str.ofString "x" = S [120] := by decide
theorem beq_S (a b : List Nat) : (S a == S b) = decide (some a = some b) := by
  by_cases h : a = b
  · subst h; simp
  · have h' : S a ≠ S b := fun e => h (S_inj.mp e)
    simp [h, h']
theorem lit_commax : Str.ofString ",x" = S [44, 120] := by decide
def shutL (l : List Nat) : Bool := decide ((parseL (l ++ [44, 120])).getLast? = some [120])
set_option maxRecDepth 100000 in
set_option maxHeartbeats 8000000 in
theorem shut_told {w : World} {x : Str} {l : List Nat} {t : Tok} (hx : x = S l) (hl : l.length ≤ 500) : Told w 94 [.str x t] [] 700 7000 (fun r h h' => r = .bool (shutL l)) := by
  w_top off
  subst hx
  intro A s R H _ hret
  have hk : (hd.heap_39 w.params).In s.heap → True := fun _ => trivial
  revert hk
  k_fill
  intro _
  ((k_dflt (refine' enter ‹At _ _ _ _ _ _› ?kd ?k6 ?k7 ?k9 ?kB ?c5 ?_ ?c2 ?c3 ?c4; (case kd => decide); (case k6 => k_is); (case k7 => k_is); (case k9 => exact BindsTo.of_eq rfl); (case c5 => decide); (case kB => exact locs rfl); (case c2 => exact rfl); (case c3 => exact rfl); (case c4 => exact rfl))))
  intro A₀ base outer g h₁ L p loose mean mg mb hkept hgs hL F N B X T C
  have hsz := sz_S (l := l) (k := 1000) (by omega)
  (try k_unmd)
  (try k_fold)
  (repeat ((fail_if_success (with_reducible show wpAny _ _ (call (Value.ref _) _) _ _ _)); ((first | (k_unfold; (try dsimp only)) | walk1 | (dsimp only; walk1) | (leave1; (try dsimp only))))))
  refine (parse_S (l := l ++ [44, 120]) (by rw [lit_commax, S_append]) (by simp; omega)).call (At.of B F X T C N (fun _ h => nomatch h) rfl rfl rfl rfl rfl (Nat.le_of_ble_eq_true rfl) (Nat.le_of_ble_eq_true rfl)) trivial ?_
  rintro r h' tk' hk2 ⟨a, vs, n, rfl, hfr, hget, hvs⟩
  have F2 := hk2.fr0 F
  have N2 := hk2.news1 F N hfr hget
  clear F N
  (try dsimp only)
  have hpx := parseL_x (l ++ [44])
  rw [List.append_assoc] at hpx
  rw [show ([44, 120] : List Nat) = [44] ++ [120] from rfl, hpx, List.map_append] at hvs
  obtain ⟨vs', tv, rfl, hvs'⟩ := strs_snoc_inv hvs
  iterate 3 (first | (k_unfold; (try dsimp only)) | walk1 | (dsimp only; walk1) | (leave1; (try dsimp only)))
  refine item_last (News.isList N2 (.head _)) ?_
  repeat (first | (k_unfold; (try dsimp only)) | walk1 | (dsimp only; walk1) | (leave1; (try dsimp only)))
  refine hret _ _ _ (hkept.of_fr F2) ?_
  show Value.bool _ = _
  rw [lit_x]
  unfold shutL
  rw [show ([44, 120] : List Nat) = [44] ++ [120] from rfl, hpx, List.getLast?_concat]
  exact congrArg Value.bool (beq_S _ _)
end Mine
end
section
open PySem PySem.W PyProof.Rows PySem.Calls
namespace Mine
set_option pp.deepTerms false
set_option pp.deepTerms.threshold 8
set_option pp.maxSteps 3000
def inner (ps : List (List Nat)) : List Nat := ((ps.headD []).drop 1).dropLast
def qcond (l : List Nat) (k e : Nat) : Bool := l[e - 1]? == some 34 && shutL (cut l k e)
def quotedL (l : List Nat) (k : Nat) : List Nat × Nat :=
  match (List.range' (k + 2) (l.length + 1 - (k + 2))).find? (qcond l k) with
  | some e => (inner (parseL (cut l k e)), e)
  | none => (inner (parseL (l.drop k ++ [34])), l.length)
def IsPair (w : List Nat) (e : Nat) (r : Value) (h h' : Heap) : Prop := ∃ T t1 t2 n, r = .ref T ∧ h.get? T = none ∧ h'.get? T = some ({ cls := .type "tuple", data := .seq #[.str (S w) t1, .int (e : Int) t2] n } : Obj)
theorem quoted_hit {l : List Nat} {k j : Nat} (h : ∀ i < j, qcond l k (k + 2 + i) = false) (hj : qcond l k (k + 2 + j) = true) (hlt : k + 2 + j ≤ l.length) : quotedL l k = (inner (parseL (cut l k (k + 2 + j))), k + 2 + j) := by
  have e : (List.range' (k + 2) (l.length + 1 - (k + 2))).find? (qcond l k) = some (k + 2 + j) := by
    rw [List.find?_range'_eq_some]
    refine ⟨hj, by simp; omega, fun x hx1 hx2 => ?_⟩
    have := h (x - (k + 2)) (by omega)
    rw [show k + 2 + (x - (k + 2)) = x by omega] at this
    simp [this]
  unfold quotedL; rw [e]
theorem quoted_miss {l : List Nat} {k : Nat} (h : ∀ i < l.length + 1 - (k + 2), qcond l k (k + 2 + i) = false) : quotedL l k = (inner (parseL (l.drop k ++ [34])), l.length) := by
  have e : (List.range' (k + 2) (l.length + 1 - (k + 2))).find? (qcond l k) = none := by
    rw [List.find?_eq_none]
    intro x hx
    have hx' := List.mem_range'_1.mp hx
    have := h (x - (k + 2)) (by omega)
    rw [show k + 2 + (x - (k + 2)) = x by omega] at this
    simp [this]
  unfold quotedL; rw [e]
theorem cut_parse {l : List Nat} {k e : Nat} (hk : l[k]? = some 34) (he : k < e) : ∃ w ws, parseL (cut l k e) = w :: ws := by
  obtain ⟨hkl, hk2⟩ := List.getElem?_eq_some_iff.mp hk
  have e1 : l.drop k = 34 :: l.drop (k + 1) := by rw [← hk2]; exact List.drop_eq_getElem_cons hkl
  have e2 : cut l k e = 34 :: (l.drop (k + 1)).take (e - k - 1) := by
    unfold cut; rw [e1, show e - k = (e - k - 1) + 1 by omega]; rfl
  rw [e2]
  exact List.exists_cons_of_ne_nil (parseL_ne rfl)
theorem quoted_end {l : List Nat} {k : Nat} {g h' : Heap} {L : Addr} {m' m₀ : Str → Option Value} {own : List (Addr × Obj)} {s₁ : Shared} {tk : Nat} {pre : List Int} {e : Int}
    (F : Fr g L h' m') (N : News g L h' ([] ++ own)) (hP : ∀ i < pre.length, qcond l k (k + 2 + i) = false) (hq : qcond l k (k + 2 + pre.length) = false) (mr : ∀ z, z ≠ Str.ofString "end" → m' z = m₀ z) :
    InvEndN g L (KstS (fun _ : Unit => []) (fun _ => []) (fun _ => True) (Str.ofString "end") [] m₀ (fun pre _ => ∀ i < pre.length, qcond l k (k + 2 + i) = false) (pre ++ [e])) own [] s₁ { s₁ with heap := h', toks := tk } := by
  refine kst_end (σ := Unit) () F N (fun _ h => nomatch h) (fun p hp => hp) rfl trivial (fun _ h => nomatch h) (fun z hz _ _ => mr z hz) ?_
  intro i hi
  simp only [List.length_append, List.length_singleton] at hi
  by_cases h : i < pre.length
  · exact hP i h
  · rw [show i = pre.length by omega]; exact hq
set_option maxRecDepth 100000 in
set_option maxHeartbeats 8000000 in
theorem quoted_told {w : World} {l : List Nat} {t u : Tok} {k : Nat} (hl : l.length ≤ 400) (hk : l[k]? = some 34) : Told w 101 [.str (S l) t, .int (k : Int) u] [] 600 6000 (IsPair (quotedL l k).1 (quotedL l k).2) := by
  w_top off
  have hkl : k < l.length := (List.getElem?_eq_some_iff.mp hk).1
  intro A s R H _ hret
  have hk' : (hd.heap_39 w.params).In s.heap → True := fun _ => trivial
  revert hk'
  k_fill
  intro _
  ((k_dflt (refine' enter ‹At _ _ _ _ _ _› ?kd ?k6 ?k7 ?k9 ?kB ?c5 ?_ ?c2 ?c3 ?c4; (case kd => decide); (case k6 => k_is); (case k7 => k_is); (case k9 => exact BindsTo.of_eq rfl); (case c5 => decide); (case kB => exact locs rfl); (case c2 => exact rfl); (case c3 => exact rfl); (case c4 => exact rfl))))
  intro A₀ base outer g h₁ L p loose mean mg mb hkept hgs hL F N B X T C
  have hsz := sz_S (l := l) (k := 1000) (by omega)
  have hlen := S_length l
  (try k_unmd)
  (try k_fold)
  (repeat ((fail_if_success (with_reducible show wpAny _ _ (exec (Stmt.For _ _ _ _ _) _) _ _ _)); ((first | (k_unfold; (try dsimp only)) | walk1 | (dsimp only; walk1) | (leave1; (try dsimp only))))))
  with_unfolding_all refine' For_invVF F rfl rfl ?_
  (repeat ((fail_if_success (with_reducible show wpAny _ _ (pyIter _) _ _ _)); ((first | (k_unfold; (try dsimp only)) | walk1 | (dsimp only; walk1) | (leave1; (try dsimp only))))))
  (rename IsRange _ _ _ _ _ _ _ _ => rg)
  (rename News _ _ _ _ => lN)
  (rename Fr _ _ _ _ => lF)
  with_unfolding_all refine' kst_range (σ := Unit) (fun _ => []) (fun _ => []) (fun _ => True) [] (fun pre _ => ∀ i < pre.length, qcond l k (k + 2 + i) = false) () rfl rg (small_one (by omega) (by omega) (by omega) (by omega)) (rangeSize_nat _ _) lF lN trivial (fun _ h => nomatch h) (fun i h => absurd h (Nat.not_lt_zero _)) ?turn ?done
  case turn =>
    rintro ⟨⟩ pre e te u' h tk own rfl hlt hoff _ hP lF' lN'
    clear lF lN rg
    dsimp only at hP lF' lN'
    have hb1 : k + 2 + pre.length ≤ l.length := by omega
    have hx : ∃ c, l[k + 2 + pre.length - 1]? = some c := ⟨l[k + 2 + pre.length - 1]'(by omega), by simp⟩
    obtain ⟨c, hc⟩ := hx
    have hit : Txt.item (S l) ((k : Int) + 2 + (pre.length : Int) - 1) = ⟨#[c]⟩ := item_S (k := k + 2 + pre.length - 1) (by omega) hc
    have hsl : Txt.slice (S l) (some (k : Int)) (some ((k : Int) + 2 + (pre.length : Int))) = S (cut l k (k + 2 + pre.length)) := by
      rw [show (k : Int) + 2 + (pre.length : Int) = ((k + 2 + pre.length : Nat) : Int) by omega]
      exact slice_cut (by omega) hb1
    have hcl : (cut l k (k + 2 + pre.length)).length ≤ l.length := by simp [cut]; omega
    (repeat' ((fail_if_success (with_reducible show InvPostN _ _ _ _ _ _ _ _ _)); (fail_if_success (with_reducible show wpAny _ _ (call (Value.ref _) _) _ _ _)); ((first | (k_unfold; (try dsimp only)) | walk1 | (dsimp only; walk1) | (leave1; (try dsimp only))))))
    · -- the sign is a quote
      (rename (Txt.item _ _ == _) = true => hq)
      rw [hit] at hq
      have q34 := sgnT (k := 34) (x := Str.ofString "\"") (by decide) hq
      (rename News _ _ _ _ => lN)
      (rename Fr _ _ _ _ => lF)
      refine (shut_told (l := cut l k (k + 2 + pre.length)) hsl (by omega)).call (At.of B lF X T C lN (fun _ h => nomatch h) rfl rfl rfl rfl rfl (Nat.le_of_ble_eq_true rfl) (Nat.le_of_ble_eq_true rfl)) trivial ?_
      rintro r h' tk' hk2 rfl
      have F2 := hk2.fr0 lF
      have N2 := hk2.news0 lN
      clear lF lN
      (try dsimp only)
      cases hsh : shutL (cut l k (k + 2 + pre.length)) with
      | false =>
        (repeat' ((fail_if_success (with_reducible show InvPostN _ _ _ _ _ _ _ _ _)); (fail_if_success (with_reducible show wpAny _ _ (call (Value.ref _) _) _ _ _)); ((first | (k_unfold; (try dsimp only)) | walk1 | (dsimp only; walk1) | (leave1; (try dsimp only))))))
        exact quoted_end F2 N2 hP (by unfold qcond; rw [hsh]; simp) (fun z hz => by simp [hz, kstB])
      | true =>
        (repeat' ((fail_if_success (with_reducible show InvPostN _ _ _ _ _ _ _ _ _)); (fail_if_success (with_reducible show wpAny _ _ (call (Value.ref _) _) _ _ _)); ((first | (k_unfold; (try dsimp only)) | walk1 | (dsimp only; walk1) | (leave1; (try dsimp only))))))
        (rename News _ _ _ _ => lN)
        (rename Fr _ _ _ _ => lF)
        have hq1 : quotedL l k = (inner (parseL (cut l k (k + 2 + pre.length))), k + 2 + pre.length) := quoted_hit hP (by unfold qcond; rw [hc, hsh, q34]; rfl) hb1
        obtain ⟨w1, ws, hps⟩ := cut_parse hk (e := k + 2 + pre.length) (by omega)
        refine (parse_S (l := cut l k (k + 2 + pre.length)) hsl (by omega)).call (At.of B lF X T C lN (fun _ h => nomatch h) rfl rfl rfl rfl rfl (Nat.le_of_ble_eq_true rfl) (Nat.le_of_ble_eq_true rfl)) trivial ?_
        rintro r h' tk' hk3 ⟨a, vs, n, rfl, hfr, hget, hvs⟩
        have F3 := hk3.fr0 lF
        have N3 := hk3.news1 lF lN hfr hget
        clear lF lN
        rw [hps] at hvs
        cases hvs with
        | cons x tx hvs =>
          have hszw : (S w1).length ≤ 1000 := sz_S (Nat.le_trans (parse_len w1 (by rw [hps]; exact .head _)) (by omega))
          (try dsimp only)
          (first | (k_unfold; (try dsimp only)) | walk1 | (dsimp only; walk1) | (leave1; (try dsimp only)))
          refine item_first (News.isList N3 (.head _)) ?_
          (repeat' ((fail_if_success (with_reducible show InvPostN _ _ _ _ _ _ _ _ _)); (fail_if_success (with_reducible show wpAny _ _ (call (Value.ref _) _) _ _ _)); ((first | (k_unfold; (try dsimp only)) | walk1 | (dsimp only; walk1) | (leave1; (try dsimp only))))))
          (rename News _ _ _ _ => lN)
          (rename Fr _ _ _ _ => lF)
          rw [slice_inner, show (k : Int) + 2 + (pre.length : Int) = ((k + 2 + pre.length : Nat) : Int) by omega] at lN
          exact hret _ _ _ (hkept.of_fr lF) (by rw [hq1, hps]; exact ⟨_, _, _, _, rfl, hkept.fresh lN _ (.head _), (lN _ (.head _)).1⟩)
    · -- another sign
      (rename (Txt.item _ _ == _) = false => hq)
      rw [hit] at hq
      have q34 := sgnF (k := 34) (x := Str.ofString "\"") (by decide) hq
      exact quoted_end lF' lN' hP (by unfold qcond; rw [hc]; simp [q34]) (fun z hz => by simp [hz, kstB])
  case done =>
    rintro ⟨⟩ u' h tk _ hP lF' lN'
    clear lF lN rg
    dsimp only at hP lF' lN' ⊢
    rw [rangeKs_length] at hP
    have hq1 : quotedL l k = (inner (parseL (l.drop k ++ [34])), l.length) := quoted_miss fun i hi => hP i (by omega)
    have hsl : Txt.slice (S l) (some (k : Int)) none = S (l.drop k) := slice_from (by omega)
    have hdl : (l.drop k).length ≤ l.length := by simp
    have hszd := sz_S (l := l.drop k) (k := 1000) (by omega)
    (try k_unmd)
    (try k_fold)
    (repeat ((fail_if_success (with_reducible show wpAny _ _ (call (Value.ref _) _) _ _ _)); ((first | (k_unfold; (try dsimp only)) | walk1 | (dsimp only; walk1) | (leave1; (try dsimp only))))))
    (rename News _ _ _ _ => lN)
    (rename Fr _ _ _ _ => lF)
    have e1 : l.drop k = 34 :: l.drop (k + 1) := by
      obtain ⟨h1, h2⟩ := List.getElem?_eq_some_iff.mp hk
      rw [← h2]; exact List.drop_eq_getElem_cons h1
    have hpn : ∃ w ws, parseL (l.drop k ++ [34]) = w :: ws := by
      rw [e1]; exact List.exists_cons_of_ne_nil (parseL_ne rfl)
    obtain ⟨w1, ws, hps⟩ := hpn
    have hsl2 : Txt.slice (S l) (some (k : Int)) none ++ Str.ofString "\"" = S (l.drop k ++ [34]) := by
      rw [hsl]; exact (S_append (l.drop k) [34])
    refine (parse_S (l := l.drop k ++ [34]) hsl2 (by simp; omega)).call (At.of B lF X T C lN (fun _ h => nomatch h) rfl rfl rfl rfl rfl (Nat.le_of_ble_eq_true rfl) (Nat.le_of_ble_eq_true rfl)) trivial ?_
    rintro r h' tk' hk3 ⟨a, vs, n, rfl, hfr, hget, hvs⟩
    have F3 := hk3.fr0 lF
    have N3 := hk3.news1 lF lN hfr hget
    clear lF lN
    rw [hps] at hvs
    cases hvs with
    | cons x tx hvs =>
      have hszw : (S w1).length ≤ 1000 := sz_S (Nat.le_trans (parse_len w1 (by rw [hps]; exact .head _)) (by simp; omega))
      (try dsimp only)
      (first | (k_unfold; (try dsimp only)) | walk1 | (dsimp only; walk1) | (leave1; (try dsimp only)))
      refine item_first (News.isList N3 (.head _)) ?_
      (repeat' ((fail_if_success (with_reducible show InvPostN _ _ _ _ _ _ _ _ _)); (fail_if_success (with_reducible show wpAny _ _ (call (Value.ref _) _) _ _ _)); ((first | (k_unfold; (try dsimp only)) | walk1 | (dsimp only; walk1) | (leave1; (try dsimp only))))))
      (rename News _ _ _ _ => lN)
      (rename Fr _ _ _ _ => lF)
      rw [slice_inner, S_length] at lN
      exact hret _ _ _ (hkept.of_fr lF) (by rw [hq1, hps]; exact ⟨_, _, _, _, rfl, hkept.fresh lN _ (.head _), (lN _ (.head _)).1⟩)
end Mine
end
section
open PySem PySem.W PyProof.Rows PySem.Calls
namespace Mine
def subst (c : Nat) (z l : List Nat) : List Nat := l.flatMap fun a => if a = c then z else [a]
theorem subst_append (c : Nat) (z a b : List Nat) : subst c z (a ++ b) = subst c z a ++ subst c z b := by simp [subst]
theorem subst_free {c : Nat} {z : List Nat} : ∀ {l : List Nat}, c ∉ l → subst c z l = l
  | [], _ => rfl
  | k :: r, h => by
    have h1 : ¬ k = c := fun e => h (e ▸ List.mem_cons_self ..)
    have h2 : subst c z r = r := subst_free fun m => h (List.mem_cons_of_mem _ m)
    show (k :: r).flatMap (fun a => if a = c then z else [a]) = _
    rw [List.flatMap_cons, if_neg h1]
    show [k] ++ subst c z r = _
    rw [h2]; rfl
theorem subst_join (c : Nat) (z : List Nat) : ∀ parts : List Str, (∀ p ∈ parts, c ∉ p.cps.toList) → subst c z (Str.join ⟨#[c]⟩ parts).cps.toList = (Str.join (S z) parts).cps.toList
  | [], _ => rfl
  | [p], h => subst_free (h p (List.mem_singleton.mpr rfl))
  | p :: q :: r, h => by
    have ih := subst_join c z (q :: r) fun a ha => h a (List.mem_cons_of_mem _ ha)
    show subst c z (p ++ ⟨#[c]⟩ ++ Str.join ⟨#[c]⟩ (q :: r)).cps.toList = (p ++ S z ++ Str.join (S z) (q :: r)).cps.toList
    simp only [Str.cps_append, Array.toList_append]
    rw [subst_append, subst_append, ih, subst_free (h p (List.mem_cons_self ..))]
    have : subst c z [c] = z := by simp [subst]
    show p.cps.toList ++ subst c z [c] ++ _ = p.cps.toList ++ z ++ _
    rw [this]
theorem replace_S (l z : List Nat) (c : Nat) : Txt.replace (S l) ⟨#[c]⟩ (S z) = S (subst c z l) := by
  have h : (Txt.replace (S l) ⟨#[c]⟩ (S z)).cps.toList = subst c z l := by
    rw [StrLaws.replace_one, ← subst_join c z _ (StrLaws.split_free (S l) c), StrLaws.join_split]
    rfl
  rw [← h, S_of]
theorem subst_map {c d : Nat} : ∀ {l : List Nat}, subst c [d] l = l.map fun a => if a = c then d else a
  | [] => rfl
  | k :: r => by
    have ih := subst_map (c := c) (d := d) (l := r)
    show (k :: r).flatMap (fun a => if a = c then [d] else [a]) = _
    rw [List.flatMap_cons, List.map_cons, ← ih]
    by_cases h : k = c <;> simp [h, subst]
theorem replace_1 (l : List Nat) (c d : Nat) : Txt.replace (S l) ⟨#[c]⟩ ⟨#[d]⟩ = S (l.map fun a => if a = c then d else a) := by
  rw [← subst_map]; exact replace_S l [d] c
theorem subst_len {c : Nat} {z : List Nat} (hz : z.length = 2) : ∀ {l : List Nat}, (subst c z l).length ≤ 2 * l.length
  | [] => by simp [subst]
  | k :: r => by
    have ih := subst_len (c := c) hz (l := r)
    have e : subst c z (k :: r) = (if k = c then z else [k]) ++ subst c z r := rfl
    rw [e, List.length_append, List.length_cons]
    by_cases h : k = c <;> simp [h, hz] <;> omega
end Mine
end
section
open PySem PySem.W PyProof.Rows PySem.Calls
open PySem.Builtin PySem.Builtin.Str
namespace Mine
section
variable {prog : Program} {w : World} {A : Around} {E : Value → Shared → Prop} {s : Shared} {x y z : Str} {t u v : Tok} {Q : Value → Shared → Prop} {value slice : Expr} {h₀ : Heap} {L : Addr} {m : Str → Option Value} {news : List (Addr × Obj)}
theorem post_ge {c : Prop} [Decidable c] (h1 : (if c then y else z).length ≤ sizeLine) (h2 : ∀ t' k, s.toks ≤ k → Q (.str (if c then y else z) t') { s with toks := k }) :
    (if c then Made.val (.str y t) else Made.str z).post Q s := by
  by_cases hc : c
  · have h' := h2 t s.toks (Nat.le_refl _)
    rw [if_pos hc] at h' ⊢
    exact h'
  · have h' := h2 s.toks (s.toks + 1) (Nat.le_succ _)
    rw [if_neg hc] at h' h1 ⊢
    exact ⟨h1, h'⟩
theorem slice_ge {i j : Int} {ui uj : Tok} (hF : Fr h₀ L s.heap m) (hN : News h₀ L s.heap news) (hsz : x.length ≤ sizeLine)
    (h : ∀ h' t' k, s.toks ≤ k → Fr h₀ L h' m → News h₀ L h' news → Q (.str (Txt.slice x (some i) (some j)) t') { s with heap := h', toks := k })
    (hs : subscripted slice false (.str x t) (.ref s.heap.objs.size) = operate [.ref s.heap.objs.size, .str x t] (getItem (.str x t) (.ref s.heap.objs.size)) := by with_unfolding_all rfl)
    (ht : ∀ r, letTemporaryGo value (.str x t) r = pure () := by intro _; with_unfolding_all rfl) :
    wpAny (model prog w) A (subscriptTail value slice (.str x t) (.ref s.heap.objs.size)) Q E { s with heap := s.heap.push { cls := .type "slice", data := .fields #[.int i ui, .int j uj, .none] } } :=
  tail_of_ItemOn ⟨"str", _, F.slot_str_getitem.lookup, typeIs_str _ _ _, wpAny_getItem_str_slice (l := some (i, ui)) (u := some (j, uj)) (st := none) ⟨_, Heap.get?_push_size _ rfl, rfl, rfl⟩ rfl
    (post_ge (Nat.le_trans (Txt.slice_le x _ _) hsz) fun t' k hk => h _ t' k hk (keptFrN _ _ ⟨hF, hN⟩).1 (keptFrN _ _ ⟨hF, hN⟩).2)⟩ hs ht
theorem replace_ge (hu : u ≠ 0) (hv : v ≠ 0) (huv : u ≠ v) (hyz : (y == z) = false) (hx : x.length ≤ 1000) (hz : z.length ≤ 2)
    (hq : ∀ t' k, s.toks ≤ k → Q (.str (Txt.replace x y z) t') { s with toks := k }) : wpAny (model prog w) A (call (.builtin "str.replace") [.str x t, .str y u, .str z v]) Q E s := by
  have h3 : (x.length + 1) * z.length ≤ 1001 * 2 := Nat.mul_le_mul (by omega) hz
  have hb : x.length + (x.length + 1) * z.length ≤ 16777216 := by omega
  have h2 : (occurrences x y 0 x.length (x.length + 1)).length * z.length ≤ (x.length + 1) * z.length := Nat.mul_le_mul_right _ (StrLaws.occ_length_le x y 0 x.length (x.length + 1))
  have hl : tooLong (x.length + (occurrences x y 0 x.length (x.length + 1)).length * z.length) = false := by
    unfold tooLong
    exact decide_eq_false (by rw [sizeLine_eq]; omega)
  refine call_gives F.slot_str_replace (typeIs_str _ _ _) F.entry_str_replace (F.args_str_replace_3 _ _ _)
    (gives_str_replace x y z t u v fun _ => ⟨by simp [hu, hv], by simp [huv], hyz, hl⟩) ?_
  unfold Txt.replace at hq
  exact post_ge (by
    split
    · rw [sizeLine_eq]; omega
    · exact fits_replaced y hb) hq
end
end Mine
end
section
open PySem PySem.W PyProof.Rows PySem.Calls
namespace Mine
set_option pp.deepTerms false
set_option pp.deepTerms.threshold 8
set_option pp.maxSteps 3000
def qt (a : Nat) : Nat := if a = 34 then 57344 else a
def uq (a : Nat) : Nat := if a = 57344 then 34 else a
def bcond (l : List Nat) (k e : Nat) : Bool := (match l[e]? with | some c => isW c | none => false) && shutL (34 :: (cut (l.map qt) k e ++ [34]))
def bend (l : List Nat) (k : Nat) : Nat := ((List.range' k (l.length - k)).find? (bcond l k)).getD l.length
def bareL (l : List Nat) (k : Nat) : List Nat × Nat := ((inner (parseL (34 :: (cut (l.map qt) k (bend l k) ++ [34])))).map uq, min (bend l k + 1) l.length)
theorem bend_hit {l : List Nat} {k e : Nat} (h : ∀ i, k ≤ i → i < e → bcond l k i = false) (hj : bcond l k e = true) (hke : k ≤ e) (hlt : e < l.length) : bend l k = e := by
  have e1 : (List.range' k (l.length - k)).find? (bcond l k) = some e := by
    rw [List.find?_range'_eq_some]
    exact ⟨hj, by simp; omega, fun x hx1 hx2 => by simp [h x hx1 hx2]⟩
  unfold bend; rw [e1]; rfl
theorem bend_miss {l : List Nat} {k : Nat} (h : ∀ i, k ≤ i → i < l.length → bcond l k i = false) : bend l k = l.length := by
  have e1 : (List.range' k (l.length - k)).find? (bcond l k) = none := by
    rw [List.find?_eq_none]
    intro x hx
    have hx' := List.mem_range'_1.mp hx
    simp [h x hx'.1 (by omega)]
  unfold bend; rw [e1]; rfl
theorem bare_next {l : List Nat} {k e : Nat} (h1 : k ≤ e) (h3 : ∀ i, k ≤ i → i < e → bcond l k i = false) (he : e < l.length) (h : bcond l k e = false) : k ≤ e + 1 ∧ e + 1 ≤ l.length ∧ ∀ i, k ≤ i → i < e + 1 → bcond l k i = false := by
  refine ⟨by omega, by omega, fun i h4 h5 => ?_⟩
  by_cases h6 : i < e
  · exact h3 i h4 h6
  · rw [show i = e by omega]; exact h
theorem plain_S (l : List Nat) : Txt.replace (S l) (Str.ofString "\"") (Str.ofString "\ue000") = S (l.map qt) := replace_1 l 34 57344
theorem unplain_S (l : List Nat) : Txt.replace (S l) (Str.ofString "\ue000") (Str.ofString "\"") = S (l.map uq) := replace_1 l 57344 34
set_option maxRecDepth 100000 in
set_option maxHeartbeats 8000000 in
theorem bare_told {w : World} {l : List Nat} {t u : Tok} {k : Nat} (hl : l.length ≤ 400) (hk : k < l.length) : Told w 108 [.str (S l) t, .int (k : Int) u] [] 600 6000 (IsPair (bareL l k).1 (bareL l k).2) := by
  w_top off
  intro A s R H _ hret
  have hk' : (hd.heap_39 w.params).In s.heap → True := fun _ => trivial
  revert hk'
  k_fill
  intro _
  ((k_dflt (refine' enter ‹At _ _ _ _ _ _› ?kd ?k6 ?k7 ?k9 ?kB ?c5 ?_ ?c2 ?c3 ?c4; (case kd => decide); (case k6 => k_is); (case k7 => k_is); (case k9 => exact BindsTo.of_eq rfl); (case c5 => decide); (case kB => exact locs rfl); (case c2 => exact rfl); (case c3 => exact rfl); (case c4 => exact rfl))))
  intro A₀ base outer g h₁ L p loose mean mg mb hkept hgs hL F N B X T C
  have hsz := sz_S (l := l) (k := 1000) (by omega)
  have hlen := S_length l
  (try k_fold)
  (repeat ((fail_if_success (with_reducible show wpAny _ _ (exec (Stmt.While _ _ _ _) _) _ _ _)); ((first | (k_unfold; (try dsimp only)) | walk1 | (dsimp only; walk1) | (leave1; (try dsimp only))))))
  (rename News _ _ _ _ => lN)
  (rename Fr _ _ _ _ => lF)
  rw [plain_S] at lF
  have hml : (l.map qt).length = l.length := List.length_map ..
  have hszm := sz_S (l := l.map qt) (k := 1000) (by omega)
  have hlenm := S_length (l.map qt)
  with_unfolding_all refine' ksw_while (σ := Nat × Tok) (fun _ => []) (fun c => [(Str.ofString "end", .int (c.1 : Int) c.2)]) (fun _ => True) [] (fun c => k ≤ c.1 ∧ c.1 ≤ l.length ∧ ∀ i, k ≤ i → i < c.1 → bcond l k i = false) (fun c => l.length - c.1) (k, u) lF lN trivial (List.forall_mem_singleton.mpr rfl) ⟨Nat.le_refl _, Nat.le_of_lt hk, fun i h1 h2 => absurd h1 (by omega)⟩ ?turn
  case turn =>
    rintro ⟨e, te⟩ u' h tk _ ⟨hp1, hp2, hp3⟩ lF' lN'
    clear lF lN
    dsimp only at hp1 hp2 hp3 lF' lN'
    have hsl : Txt.slice (S (l.map qt)) (some (k : Int)) (some (e : Int)) = S (cut (l.map qt) k e) := slice_cut hp1 (by omega)
    have hcl : (cut (l.map qt) k e).length ≤ l.length := by simp [cut]; omega
    have hsl2 : Str.ofString "\"" ++ Txt.slice (S (l.map qt)) (some (k : Int)) (some (e : Int)) ++ Str.ofString "\"" = S (34 :: (cut (l.map qt) k e ++ [34])) := by
      rw [hsl]; exact ((congrArg (· ++ S [34]) (S_append [34] (cut (l.map qt) k e))).trans (S_append _ [34]))
    have hl2 : (34 :: (cut (l.map qt) k e ++ [34])).length ≤ 402 := by simp; omega
    have tail : bend l k = e → True := fun _ => trivial
    (repeat' ((fail_if_success (with_reducible show KswPost _ _ _ _ _ _ _ _ _ _ _ _ _ _)); (fail_if_success (with_reducible show wpAny _ _ (call (Value.ref _) _) _ _ _)); ((first | (k_unfold; (try dsimp only)) | walk1 | (dsimp only; walk1) | (leave1; (try dsimp only))))))
    rotate_left
    (rename (Builtin.Str.occurrences _ _ _ _ _).isEmpty = false => hq)
    (rename (e : Int) < _ => he)
    have he' : e < l.length := by omega
    have hit : Txt.item (S l) (e : Int) = ⟨#[l[e]]⟩ := item_S rfl (List.getElem?_eq_getElem he')
    rw [hit] at hq
    have hw := ws_t hq
    (rename News _ _ _ _ => lN)
    (rename Fr _ _ _ _ => lF)
    refine (shut_told hsl2 (by omega)).call (At.of B lF X T C lN (fun _ h => nomatch h) rfl rfl rfl rfl rfl (Nat.le_of_ble_eq_true rfl) (Nat.le_of_ble_eq_true rfl)) trivial ?_
    rintro r h' tk' hk2 rfl
    have F2 := hk2.fr0 lF
    have N2 := hk2.news0 lN
    clear lF lN
    (try dsimp only)
    cases hsh : shutL (34 :: (cut (l.map qt) k e ++ [34]))
    · (repeat' ((fail_if_success (with_reducible show KswPost _ _ _ _ _ _ _ _ _ _ _ _ _ _)); (fail_if_success (with_reducible show wpAny _ _ (call (Value.ref _) _) _ _ _)); ((first | (k_unfold; (try dsimp only)) | walk1 | (dsimp only; walk1) | (leave1; (try dsimp only))))))
      (rename News _ _ _ _ => lN)
      (rename Fr _ _ _ _ => lF)
      refine ksw_end (σ := Nat × Tok) (e + 1, _) lF lN (fun _ h => nomatch h) trivial (List.forall_mem_singleton.mpr rfl) (fun z hz _ => ?_) (bare_next hp1 hp3 he' (by unfold bcond; rw [hsh]; simp)) (by dsimp only; omega)
      have hz1 := hz _ (.head _)
      dsimp only at hz1
      simp [hz1, kstB]
    have hb : bend l k = e := bend_hit hp3 (by unfold bcond; rw [hsh, List.getElem?_eq_getElem he']; simp [hw]) hp1 he'
    (repeat' ((fail_if_success (with_reducible show KswPost _ _ _ _ _ _ _ _ _ _ _ _ _ _)); (fail_if_success (with_reducible show wpAny _ _ (call (Value.ref _) _) _ _ _)); ((first | (k_unfold; (try dsimp only)) | walk1 | (dsimp only; walk1) | (leave1; (try dsimp only))))))
    rotate_left
    have hb : bend l k = e := by
      have : e = l.length := by omega
      subst this
      exact bend_miss hp3
    rotate_left
    · -- no white space
      (rename (Builtin.Str.occurrences _ _ _ _ _).isEmpty = true => hq)
      (rename (e : Int) < _ => he)
      (rename News _ _ _ _ => lN)
      (rename Fr _ _ _ _ => lF)
      have he' : e < l.length := by omega
      have hit : Txt.item (S l) (e : Int) = ⟨#[l[e]]⟩ := item_S rfl (List.getElem?_eq_getElem he')
      rw [hit] at hq
      have hw := ws_f hq
      refine ksw_end (σ := Nat × Tok) (e + 1, _) lF lN (fun _ h => nomatch h) trivial (List.forall_mem_singleton.mpr rfl) (fun z hz _ => ?_) (bare_next hp1 hp3 he' (by unfold bcond; rw [List.getElem?_eq_getElem he']; simp [hw])) (by dsimp only; omega)
      have hz1 := hz _ (.head _)
      dsimp only at hz1
      simp [hz1, kstB]
    all_goals
      (rename News _ _ _ _ => lN)
      (rename Fr _ _ _ _ => lF)
      refine (parse_S hsl2 (by omega)).call (At.of B lF X T C lN (fun _ h => nomatch h) rfl rfl rfl rfl rfl (Nat.le_of_ble_eq_true rfl) (Nat.le_of_ble_eq_true rfl)) trivial ?_
      rintro r h' tk' hk3 ⟨a, vs, n, rfl, hfr, hget, hvs⟩
      have F3 := hk3.fr0 lF
      have N3 := hk3.news1 lF lN hfr hget
      clear lF lN
      obtain ⟨w1, ws, hps⟩ := List.exists_cons_of_ne_nil (parseL_ne (c := 34) (m := cut (l.map qt) k e ++ [34]) rfl)
      rw [hps] at hvs
      cases hvs with
      | cons x tx hvs =>
        have hszw : (S w1).length ≤ 1000 := sz_S (Nat.le_trans (parse_len w1 (by rw [hps]; exact .head _)) (by omega))
        (try dsimp only)
        (first | (k_unfold; (try dsimp only)) | walk1 | (dsimp only; walk1) | (leave1; (try dsimp only)))
        refine item_first (News.isList N3 (.head _)) ?_
        have hlw : w1.length ≤ 402 := Nat.le_trans (parse_len w1 (by rw [hps]; exact .head _)) hl2
        have hszi : (S ((w1.drop 1).dropLast)).length ≤ 1000 := sz_S (by simp; omega)
        (repeat ((fail_if_success (with_reducible show wpAny _ _ (subscriptTail _ _ _ _) _ _ _)); ((first | (k_unfold; (try dsimp only)) | walk1 | (dsimp only; walk1) | (leave1; (try dsimp only))))))
        (rename News _ _ _ _ => lN)
        (rename Fr _ _ _ _ => lF)
        refine slice_ge (s := ⟨_, _, _, _, _⟩) lF lN (Nat.le_trans hszw (by decide)) ?_
        intro h4 t4 k4 hk4 lF4 lN4
        rw [slice_inner]
        have hk5 : 0 < k4 := by dsimp only at hk4; omega
        clear lF lN hk4
        dsimp only
        (repeat ((fail_if_success (with_reducible show wpAny _ _ (execs _ _) _ _ _)); ((first | (k_unfold; (try dsimp only)) | walk1 | (dsimp only; walk1) | (leave1; (try dsimp only))))))
        show wpAny _ _ (execs _ _) _ _ (Shared.mk _ _ _ (k4 + 1) _)
        obtain ⟨k6, hk6, hk7⟩ : ∃ k6, k6 = k4 + 1 ∧ k6 ≠ 0 := ⟨_, rfl, by omega⟩
        rw [← hk6]
        clear hk6
        (repeat' ((fail_if_success (with_reducible show KswPost _ _ _ _ _ _ _ _ _ _ _ _ _ _)); (fail_if_success (with_reducible show wpAny _ _ (call (Value.ref _) _) _ _ _)); ((first | (k_unfold; (try dsimp only)) | walk1 | (dsimp only; walk1) | (leave1; (try dsimp only))))))
        (rename News _ _ _ _ => lN)
        (rename Fr _ _ _ _ => lF)
        have hmin : (if ((S l).length : Int) < (e : Int) + 1 then ((S l).length : Int) else (e : Int) + 1) = ((min (e + 1) l.length : Nat) : Int) := by rw [S_length]; split <;> omega
        rw [unplain_S, hmin] at lN
        exact hret _ _ _ (hkept.of_fr lF) (by unfold bareL; rw [hb, hps]; exact ⟨_, _, _, _, rfl, hkept.fresh lN _ (.head _), (lN _ (.head _)).1⟩)
end Mine
end
section
open PySem PySem.W PyProof.Rows PySem.Calls
namespace Mine
set_option pp.deepTerms false
set_option pp.deepTerms.threshold 8
set_option pp.maxSteps 3000
def wend (l : List Nat) (k : Nat) : Nat := l.length - ((l.drop k).dropWhile isW).length
def byL (l : List Nat) (k : Nat) : List Nat × Nat :=
  if wend l k = l.length then ([], l.length) else if l[wend l k]? = some 34 then quotedL l (wend l k) else bareL l (wend l k)
theorem wend_step {l : List Nat} {k e : Nat} (he : e < l.length) (hw : isW l[e] = true) (h : (l.drop e).dropWhile isW = (l.drop k).dropWhile isW) : (l.drop (e + 1)).dropWhile isW = (l.drop k).dropWhile isW := by
  rw [← h, List.drop_eq_getElem_cons he, List.dropWhile_cons, if_pos hw]
theorem wend_hit {l : List Nat} {k e : Nat} (he : e < l.length) (hw : isW l[e] = false) (h : (l.drop e).dropWhile isW = (l.drop k).dropWhile isW) : wend l k = e := by
  unfold wend
  rw [← h, List.drop_eq_getElem_cons he, List.dropWhile_cons, hw]
  simp; omega
theorem wend_end {l : List Nat} {k e : Nat} (he : e = l.length) (h : (l.drop e).dropWhile isW = (l.drop k).dropWhile isW) : wend l k = l.length := by
  unfold wend
  rw [← h, he]; simp
theorem kept_none {h h' : Heap} {b : Addr} (k : Kept [] h h') (hn : h'.get? b = none) : h.get? b = none := by
  cases q : h.get? b with
  | none => rfl
  | some o => rw [k _ _ q (fun z => nomatch z)] at hn; cases hn
set_option maxRecDepth 100000 in
set_option maxHeartbeats 8000000 in
theorem by_lists_told {w : World} {l : List Nat} {t u : Tok} {k : Nat} (hl : l.length ≤ 400) (hk : k ≤ l.length) : Told w 115 [.str (S l) t, .int (k : Int) u] [] 500 5000 (IsPair (byL l k).1 (byL l k).2) := by
  w_top off
  intro A s R H _ hret
  have hk' : (hd.heap_39 w.params).In s.heap → True := fun _ => trivial
  revert hk'
  k_fill
  intro _
  ((k_dflt (refine' enter ‹At _ _ _ _ _ _› ?kd ?k6 ?k7 ?k9 ?kB ?c5 ?_ ?c2 ?c3 ?c4; (case kd => decide); (case k6 => k_is); (case k7 => k_is); (case k9 => exact BindsTo.of_eq rfl); (case c5 => decide); (case kB => exact locs rfl); (case c2 => exact rfl); (case c3 => exact rfl); (case c4 => exact rfl))))
  intro A₀ base outer g h₁ L p loose mean mg mb hkept hgs hL F N B X T C
  have hsz := sz_S (l := l) (k := 1000) (by omega)
  have hlen := S_length l
  (try k_unmd)
  (try k_fold)
  (repeat ((fail_if_success (with_reducible show wpAny _ _ (exec (Stmt.While _ _ _ _) _) _ _ _)); ((first | (k_unfold; (try dsimp only)) | walk1 | (dsimp only; walk1) | (leave1; (try dsimp only))))))
  (rename News _ _ _ _ => lN)
  (rename Fr _ _ _ _ => lF)
  with_unfolding_all refine' ksw_whileJ (σ := Nat × Tok) (fun _ => []) (fun c => [(Str.ofString "place", .int (c.1 : Int) c.2)]) (fun _ => True) [] (fun c => c.1 ≤ l.length ∧ (l.drop c.1).dropWhile isW = (l.drop k).dropWhile isW) (fun c => l.length - c.1) (k, u) lF lN trivial (List.forall_mem_singleton.mpr rfl) ⟨hk, rfl⟩ ?turn
  case turn =>
    rintro ⟨e, te⟩ J hJ u' h tk _ ⟨hp1, hp2⟩ lF' lN'
    clear lF lN
    dsimp only at hp1 hp2 lF' lN'
    (repeat' ((fail_if_success (with_reducible show KswPost _ _ _ _ _ _ _ _ _ _ _ _ _ _)); (fail_if_success (with_reducible show wpAny _ _ (call (Value.ref _) _) _ _ _)); ((first | (k_unfold; (try dsimp only)) | walk1 | (dsimp only; walk1) | (leave1; (try dsimp only))))))
    all_goals (try (exfalso; omega))
    · -- a quote
      (rename (Builtin.Str.occurrences _ _ _ _ _).isEmpty = true => hq)
      (rename (e : Int) < _ => he)
      (rename (Txt.item _ _ == _) = true => hq2)
      (rename News _ _ _ _ => lN)
      (rename Fr _ _ _ _ => lF)
      have he' : e < l.length := by omega
      have hit : Txt.item (S l) (e : Int) = ⟨#[l[e]]⟩ := item_S rfl (List.getElem?_eq_getElem he')
      rw [hit] at hq hq2
      have hw := ws_f hq
      have q34 := sgnT (k := 34) (x := Str.ofString "\"") (by decide) hq2
      have hwe := wend_hit he' hw hp2
      have hq34 : l[e]? = some 34 := by rw [List.getElem?_eq_getElem he', q34]
      refine (quoted_told hl hq34).call (At.of B lF X T C lN (fun _ h => nomatch h) rfl rfl rfl rfl rfl (Nat.le_of_ble_eq_true rfl) (Nat.le_of_ble_eq_true rfl)) trivial ?_
      rintro r h' tk' hk3 ⟨Ta, t1, t2, n, rfl, hfr, hget⟩
      exact hret _ _ _ ((hkept.of_fr lF).trans hk3) (by unfold byL; rw [hwe, if_neg (by omega), if_pos hq34]; exact ⟨Ta, t1, t2, n, rfl, kept_none (hkept.of_fr lF) hfr, hget⟩)
    · -- another sign
      (rename (Builtin.Str.occurrences _ _ _ _ _).isEmpty = true => hq)
      (rename (e : Int) < _ => he)
      (rename (Txt.item _ _ == _) = false => hq2)
      (rename News _ _ _ _ => lN)
      (rename Fr _ _ _ _ => lF)
      have he' : e < l.length := by omega
      have hit : Txt.item (S l) (e : Int) = ⟨#[l[e]]⟩ := item_S rfl (List.getElem?_eq_getElem he')
      rw [hit] at hq hq2
      have hw := ws_f hq
      have q34 := sgnF (k := 34) (x := Str.ofString "\"") (by decide) hq2
      have hwe := wend_hit he' hw hp2
      have hq34 : ¬ l[e]? = some 34 := by rw [List.getElem?_eq_getElem he']; simpa using q34
      refine (bare_told hl he').call (At.of B lF X T C lN (fun _ h => nomatch h) rfl rfl rfl rfl rfl (Nat.le_of_ble_eq_true rfl) (Nat.le_of_ble_eq_true rfl)) trivial ?_
      rintro r h' tk' hk3 ⟨Ta, t1, t2, n, rfl, hfr, hget⟩
      exact hret _ _ _ ((hkept.of_fr lF).trans hk3) (by unfold byL; rw [hwe, if_neg (by omega), if_neg hq34]; exact ⟨Ta, t1, t2, n, rfl, kept_none (hkept.of_fr lF) hfr, hget⟩)
    · -- white
      (rename (Builtin.Str.occurrences _ _ _ _ _).isEmpty = false => hq)
      (rename (e : Int) < _ => he)
      (rename News _ _ _ _ => lN)
      (rename Fr _ _ _ _ => lF)
      have he' : e < l.length := by omega
      have hit : Txt.item (S l) (e : Int) = ⟨#[l[e]]⟩ := item_S rfl (List.getElem?_eq_getElem he')
      rw [hit] at hq
      have hw := ws_t hq
      refine hJ _ _ (ksw_end (σ := Nat × Tok) (e + 1, _) lF lN (fun _ h => nomatch h) trivial (List.forall_mem_singleton.mpr rfl) (fun z hz _ => ?_) ⟨he', wend_step he' hw hp2⟩ (by dsimp only; omega))
      have hz1 := hz _ (.head _)
      dsimp only at hz1
      simp [hz1, kstB]
    · -- the end
      (rename News _ _ _ _ => lN)
      (rename Fr _ _ _ _ => lF)
      have he' : e = l.length := by omega
      have hwe := wend_end he' hp2
      subst he'
      exact hret _ _ _ (hkept.of_fr lF) (by unfold byL; rw [hwe, if_pos rfl]; exact ⟨_, _, _, _, rfl, hkept.fresh lN _ (.head _), (lN _ (.head _)).1⟩)
end Mine
end
section
open PySem PySem.W PyProof.Rows PySem.Calls
namespace Mine
/-- a quoted word that the lexer reads, as the list's reader goes over it -/
theorem rdQ_fold (res : List (List Nat)) (p : List Nat) : ∀ (n : Nat) (r acc : List Nat), r.length ≤ n →
    (∃ u v, r = u ++ v ∧ (rdQ acc (r ++ [120])).2 = v ++ [120] ∧ u.foldl pstep ⟨res, p ++ acc, false, true⟩ = ⟨res, p ++ (rdQ acc (r ++ [120])).1 ++ [34], false, false⟩) ∨
    ((rdQ acc (r ++ [120])).2 = [] ∧ ∃ e q, r.foldl pstep ⟨res, p ++ acc, false, true⟩ = ⟨res, p ++ (rdQ acc (r ++ [120])).1.dropLast, e, q⟩)
  | _, [], acc, _ => .inr ⟨by simp [rdQ], false, true, by simp [rdQ]⟩
  | 0, _ :: _, _, h => absurd h (by simp)
  | n + 1, c :: r, acc, h => by
    have h' : r.length ≤ n := by simpa using h
    by_cases h34 : c = 34
    · subst h34
      left
      refine ⟨[34], r, rfl, ?_, ?_⟩
      · rw [List.cons_append, rdQ_34]
      · rw [List.cons_append, rdQ_34]; simp [pstep]
    · by_cases h92 : c = 92
      · subst h92
        cases r with
        | nil =>
          right
          refine ⟨by simp [rdQ], true, true, by simp [rdQ, pstep]⟩
        | cons d r2 =>
          have e : rdQ acc (92 :: d :: r2 ++ [120]) = rdQ (acc ++ [d]) (r2 ++ [120]) := by
            rw [List.cons_append, List.cons_append, rdQ_92]
          have st : ∀ u : List Nat, (92 :: d :: u).foldl pstep ⟨res, p ++ acc, false, true⟩ = u.foldl pstep ⟨res, p ++ (acc ++ [d]), false, true⟩ := fun u => by
            simp [pstep]
          rw [e]
          rcases rdQ_fold res p n r2 (acc ++ [d]) (by simp at h'; omega) with ⟨u, v, e1, e2, e3⟩ | ⟨e1, x, q, e2⟩
          · exact .inl ⟨92 :: d :: u, v, by rw [e1]; rfl, e2, (st u).trans e3⟩
          · exact .inr ⟨e1, x, q, (st r2).trans e2⟩
      · have e : rdQ acc (c :: r ++ [120]) = rdQ (acc ++ [c]) (r ++ [120]) := by
          rw [List.cons_append, rdQ_c h34 h92]
        have st : ∀ u : List Nat, (c :: u).foldl pstep ⟨res, p ++ acc, false, true⟩ = u.foldl pstep ⟨res, p ++ (acc ++ [c]), false, true⟩ := fun u => by
          simp [pstep, h34, h92]
        rw [e]
        rcases rdQ_fold res p n r (acc ++ [c]) h' with ⟨u, v, e1, e2, e3⟩ | ⟨e1, x, q, e2⟩
        · exact .inl ⟨c :: u, v, by rw [e1]; rfl, e2, (st u).trans e3⟩
        · exact .inr ⟨e1, x, q, (st r).trans e2⟩
end Mine
end
section
open PySem PySem.W PyProof.Rows PySem.Calls
namespace Mine
/-- the lexer maker's code table: empty, or the lambda's code -/
def Tab (o : Obj) (h : Heap) : Prop := o = tabObj #[] ∨ ∃ c, o = tabHit c ∧ h.CodeRec (.ref c) lamQual
theorem lexer_told {w : World} {sg : Addr} {o : Obj} : ToldP w 82 [.ref sg] [(77, o)] 600 6000 (fun h => (∃ o, h.get? sg = some o) ∧ Tab o h) (fun r h h' => LexMade w sg r h h') := by
  rintro A s R H ⟨hs, rfl | ⟨c, rfl, hc⟩⟩ hret
  · exact lexer_miss A s R H hs fun r h' tk k o => hret r h' tk k o.made
  · exact lexer_hit A s R H ⟨hs, hc⟩ fun r h' tk k o => hret r h' tk k o.made
theorem lexer_told2 {w : World} {sg : Addr} {o : Obj} : ToldP w 82 [.ref sg] [(77, o)] 600 6000 (fun h => (∃ o, h.get? sg = some o) ∧ Tab o h) (fun r h h' => LexMade2 w sg r h h') := by
  rintro A s R H ⟨hs, rfl | ⟨c, rfl, hc⟩⟩ hret
  · exact lexer_miss A s R H hs hret
  · exact lexer_hit A s R H ⟨hs, hc⟩ hret
/-- the table as a ledger tells it: ex holds the lambda's code where it is new -/
def TabF (g : Heap) (o : Obj) (ex : List (Addr × Obj)) : Prop := o = tabObj #[] ∨ ∃ c, o = tabHit c ∧ (g.CodeRec (.ref c) lamQual ∨ ∃ oc vs t, (c, oc) ∈ ex ∧ oc.data = .fields vs ∧ vs[1]? = some (.str lamQual t))
theorem TabF.tab {g h : Heap} {L : Addr} {m : Str → Option Value} {o : Obj} {ex news : List (Addr × Obj)} (T : TabF g o ex) (F : Fr g L h m) (N : News g L h news) (hs : ∀ p ∈ ex, p ∈ news) : Tab o h := by
  rcases T with rfl | ⟨c, rfl, hc | ⟨oc, vs, t, hm, e1, e2⟩⟩
  · exact .inl rfl
  · exact .inr ⟨c, rfl, hc.keeps F.keep⟩
  · exact .inr ⟨c, rfl, c, oc, vs, t, rfl, (N _ (hs _ hm)).1, e1, e2⟩
theorem TabF.of {g h : Heap} {L : Addr} {m : Str → Option Value} {o : Obj} {news : List (Addr × Obj)} (T : Tab o h) (F : Fr g L h m) (N : News g L h news) : ∃ ex, TabF g o ex ∧ News g L h (ex ++ news) := by
  rcases T with rfl | ⟨c, rfl, c', oc, vs, t, hcc, e1, e2, e3⟩
  · exact ⟨[], .inl rfl, N⟩
  · cases hcc
    cases q : g.get? c with
    | some o' =>
      have e4 := F.keep _ _ q
      rw [e1] at e4
      cases e4
      exact ⟨[], .inr ⟨c, rfl, .inl ⟨c, oc, vs, t, rfl, q, e2, e3⟩⟩, N⟩
    | none =>
      refine ⟨[(c, oc)], .inr ⟨c, rfl, .inr ⟨oc, vs, t, .head _, e2, e3⟩⟩, fun p hp => ?_⟩
      rcases List.mem_cons.mp hp with rfl | hp
      · refine ⟨e1, fun hL => ?_, q⟩
        obtain ⟨oL, es, ep, e5, e6, -⟩ := F.ns
        dsimp only at hL
        subst hL
        rw [e1] at e5
        cases e5
        rw [e2] at e6
        cases e6
      · exact N p hp
end Mine
end
section
open PySem PySem.W PyProof.Rows PySem.Calls
namespace Mine
theorem ns34 : Unicode.isSpace 34 = false := by decide +kernel
theorem ns120 : Unicode.isSpace 120 = false := by decide +kernel
theorem ns44 : Unicode.isSpace 44 = false := by decide +kernel
theorem takeWhile_len_le {f : Nat → Bool} {p q : List Nat} {c : Nat} (hc : f c = false) : ((p ++ c :: q).takeWhile f).length ≤ p.length := by
  induction p with
  | nil => simp [List.takeWhile_cons, hc]
  | cons a p ih =>
    rw [List.cons_append, List.takeWhile_cons]
    split
    · simpa using ih
    · simp
theorem stripL_end {p : List Nat} {b : Nat} (hb : Unicode.isSpace b = false) : stripL (p ++ [b]) = (p ++ [b]).drop ((p ++ [b]).takeWhile Unicode.isSpace).length := by
  unfold stripL
  rw [Txt.strip, W.stripBy_eq]
  unfold W.stripped Builtin.Str.strSub
  simp only [if_true, S_list]
  rw [Array.toList_extract, S_length, S_list]
  have h1 : ((p ++ [b]).takeWhile Unicode.isSpace).length ≤ p.length := takeWhile_len_le hb
  have h2 : (((p ++ [b]).drop ((p ++ [b]).takeWhile Unicode.isSpace).length).reverse.takeWhile Unicode.isSpace) = [] := by
    rw [List.drop_append_of_le_length h1]
    simp [List.takeWhile_cons, hb]
  rw [h2]
  simp only [List.length_nil, Nat.sub_zero]
  unfold List.extract
  rw [List.take_of_length_le]
  simp
theorem stripL_x : stripL [120] = [120] := by
  have h := stripL_end (p := []) (b := 120) ns120
  rw [List.nil_append] at h
  rw [h]; simp [List.takeWhile_cons, ns120]
theorem stripL_commax {p : List Nat} : stripL (p ++ [44, 120]) ≠ [120] := by
  intro h
  rw [show p ++ [44, 120] = (p ++ [44]) ++ [120] by simp, stripL_end ns120] at h
  have h1 := congrArg List.length h
  have h2 : ((p ++ [44] ++ [120]).takeWhile Unicode.isSpace).length ≤ p.length := by
    rw [List.append_assoc]; exact takeWhile_len_le (c := 44) ns44
  simp only [List.length_drop, List.length_append, List.length_singleton] at h1
  simp only [List.append_assoc] at h1 h2
  omega
theorem stripL_q {w : List Nat} : stripL (34 :: (w ++ [34])) = 34 :: (w ++ [34]) := by
  have h := stripL_end (p := 34 :: w) (b := 34) ns34
  rw [List.cons_append] at h
  rw [h, List.takeWhile_cons, ns34]; rfl
/-- a comma parts where no quote is open -/
theorem shut_iff (l : List Nat) (he : (l.foldl pstep pinit).esc = true → (l.foldl pstep pinit).quo = true) : shutL l = !(l.foldl pstep pinit).quo := by
  have hpx := parseL_x (l ++ [44])
  rw [List.append_assoc] at hpx
  unfold shutL
  rw [show ([44, 120] : List Nat) = [44] ++ [120] from rfl, hpx, List.getLast?_concat, foldl_snoc]
  generalize l.foldl pstep pinit = c at he
  obtain ⟨res, part, esc, quo⟩ := c
  cases esc <;> cases quo
  · simp [pstep, stripL_x]
  · simp [pstep, stripL_commax]
  · simp at he
  · simp [pstep, stripL_commax]
theorem pstep_eq' {c : PS} (n : Nat) (h : c.esc = true → c.quo = true) : (pstep c n).esc = true → (pstep c n).quo = true := by
  obtain ⟨res, part, esc, quo⟩ := c
  cases esc <;> cases quo <;> unfold pstep <;> (repeat' split) <;> simp_all
theorem fold_eq (l : List Nat) : ∀ {c : PS}, (c.esc = true → c.quo = true) → (l.foldl pstep c).esc = true → (l.foldl pstep c).quo = true := by
  induction l with
  | nil => exact fun h => h
  | cons n l ih => exact fun h => ih (pstep_eq' n h)
theorem shut_quo (l : List Nat) : shutL l = !(l.foldl pstep pinit).quo := shut_iff l (fold_eq l (by simp [pinit]))
end Mine
end
section
open PySem PySem.W PyProof.Rows PySem.Calls
namespace Mine
/-- a quoted word: what the lexer reads of it, and the list reader's states on the way -/
theorem rdQ_scan (res : List (List Nat)) (p : List Nat) : ∀ (n : Nat) (r acc : List Nat), r.length ≤ n →
    (∃ u v, r = u ++ 34 :: v ∧ (rdQ acc r).2 = v ∧ (u ++ [34]).foldl pstep ⟨res, p ++ acc, false, true⟩ = ⟨res, p ++ (rdQ acc r).1 ++ [34], false, false⟩ ∧ ∀ k ≤ u.length, ((u.take k).foldl pstep ⟨res, p ++ acc, false, true⟩).quo = true) ∨
    ((rdQ acc r).2 = [] ∧ (∃ e, r.foldl pstep ⟨res, p ++ acc, false, true⟩ = ⟨res, p ++ (rdQ acc r).1, e, true⟩) ∧ ∀ k ≤ r.length, ((r.take k).foldl pstep ⟨res, p ++ acc, false, true⟩).quo = true)
  | _, [], acc, _ => .inr ⟨by simp [rdQ], ⟨false, by simp [rdQ]⟩, by simp⟩
  | 0, _ :: _, _, h => absurd h (by simp)
  | n + 1, c :: r, acc, h => by
    have h' : r.length ≤ n := by simpa using h
    by_cases h34 : c = 34
    · subst h34
      left
      refine ⟨[], r, rfl, ?_, ?_, ?_⟩
      · rw [rdQ_34]
      · rw [rdQ_34]; simp [pstep]
      · simp
    · by_cases h92 : c = 92
      · subst h92
        cases r with
        | nil =>
          right
          refine ⟨by simp [rdQ], ⟨true, by simp [rdQ, pstep]⟩, ?_⟩
          intro k hk
          cases k with
          | zero => rfl
          | succ k => simp [pstep]
        | cons d r2 =>
          have e : rdQ acc (92 :: d :: r2) = rdQ (acc ++ [d]) r2 := rdQ_92
          have st : ∀ u : List Nat, (92 :: d :: u).foldl pstep ⟨res, p ++ acc, false, true⟩ = u.foldl pstep ⟨res, p ++ (acc ++ [d]), false, true⟩ := fun u => by
            simp [pstep]
          have sq : ∀ (u : List Nat), (∀ k ≤ u.length, ((u.take k).foldl pstep ⟨res, p ++ (acc ++ [d]), false, true⟩).quo = true) → ∀ k ≤ (92 :: d :: u).length, (((92 :: d :: u).take k).foldl pstep ⟨res, p ++ acc, false, true⟩).quo = true := by
            intro u hu k hk
            match k with
            | 0 => rfl
            | 1 => simp [pstep]
            | k + 2 =>
              rw [List.take_succ_cons, List.take_succ_cons, st]
              exact hu k (by simpa using hk)
          rw [e]
          rcases rdQ_scan res p n r2 (acc ++ [d]) (by simp at h'; omega) with ⟨u, v, e1, e2, e3, e4⟩ | ⟨e1, ⟨x, e2⟩, e3⟩
          · exact .inl ⟨92 :: d :: u, v, by rw [e1]; rfl, e2, (st _).trans e3, sq u e4⟩
          · exact .inr ⟨e1, ⟨x, (st r2).trans e2⟩, sq r2 e3⟩
      · have e : rdQ acc (c :: r) = rdQ (acc ++ [c]) r := rdQ_c h34 h92
        have st : ∀ u : List Nat, (c :: u).foldl pstep ⟨res, p ++ acc, false, true⟩ = u.foldl pstep ⟨res, p ++ (acc ++ [c]), false, true⟩ := fun u => by
          simp [pstep, h34, h92]
        have sq : ∀ (u : List Nat), (∀ k ≤ u.length, ((u.take k).foldl pstep ⟨res, p ++ (acc ++ [c]), false, true⟩).quo = true) → ∀ k ≤ (c :: u).length, (((c :: u).take k).foldl pstep ⟨res, p ++ acc, false, true⟩).quo = true := by
          intro u hu k hk
          match k with
          | 0 => rfl
          | k + 1 =>
            rw [List.take_succ_cons, st]
            exact hu k (by simpa using hk)
        rw [e]
        rcases rdQ_scan res p n r (acc ++ [c]) h' with ⟨u, v, e1, e2, e3, e4⟩ | ⟨e1, ⟨x, e2⟩, e3⟩
        · exact .inl ⟨c :: u, v, by rw [e1]; rfl, e2, (st _).trans e3, sq u e4⟩
        · exact .inr ⟨e1, ⟨x, (st r).trans e2⟩, sq r e3⟩
theorem parse_q {m w : List Nat} {e q : Bool} (h : m.foldl pstep pinit = ⟨[], 34 :: (w ++ [34]), e, q⟩) : parseL m = [34 :: (w ++ [34])] := by
  unfold parseL; rw [h]; simp [pfin, stripL_q]
theorem inner_q {w : List Nat} : inner [34 :: (w ++ [34])] = w := by simp [inner]
/-- a quoted word as the lists tell it is the lexer's -/
theorem quoted_tok {l : List Nat} {k : Nat} (hk : l[k]? = some 34) : (quotedL l k).1 = (rdQ [] (l.drop (k + 1))).1 ∧ l.drop (quotedL l k).2 = (rdQ [] (l.drop (k + 1))).2 ∧ k < (quotedL l k).2 ∧ (quotedL l k).2 ≤ l.length := by
  obtain ⟨hkl, hk2⟩ := List.getElem?_eq_some_iff.mp hk
  have e1 : l.drop k = 34 :: l.drop (k + 1) := by rw [← hk2]; exact List.drop_eq_getElem_cons hkl
  have hst : pstep pinit 34 = ⟨[], [34] ++ [], false, true⟩ := rfl
  have hcut : ∀ i, cut l k (k + 1 + i) = 34 :: (l.drop (k + 1)).take i := by
    intro i
    unfold cut
    rw [e1, show k + 1 + i - k = i + 1 by omega]; rfl
  have hlen : (l.drop (k + 1)).length = l.length - (k + 1) := List.length_drop ..
  rcases rdQ_scan [] [34] _ (l.drop (k + 1)) [] (Nat.le_refl _) with ⟨u, v, h1, h2, h3, h4⟩ | ⟨h1, ⟨x, h2⟩, h3⟩
  · have hul : u.length + 1 + v.length = l.length - (k + 1) := by
      rw [← hlen, h1]; simp; omega
    have hq : quotedL l k = (inner (parseL (cut l k (k + 2 + u.length))), k + 2 + u.length) := by
      refine quoted_hit (fun i hi => ?_) ?_ (by omega)
      · unfold qcond
        rw [show k + 2 + i = k + 1 + (i + 1) by omega, hcut, shut_quo, List.foldl_cons, hst, h1, List.take_append_of_le_length (by omega), h4 _ (by omega)]
        simp
      · unfold qcond
        rw [show k + 2 + u.length = k + 1 + (u.length + 1) by omega, hcut, shut_quo, List.foldl_cons, hst, h1]
        have e2 : (u ++ 34 :: v).take (u.length + 1) = u ++ [34] := by simp [List.take_append, List.take_of_length_le]
        rw [e2, h3]
        have e3 : l[k + 1 + (u.length + 1) - 1]? = some 34 := by
          have := congrArg (fun z => z[u.length]?) h1
          simp only [List.getElem?_drop] at this
          rw [show k + 1 + (u.length + 1) - 1 = k + 1 + u.length by omega, this]
          simp
        rw [e3]; rfl
    have hp : parseL (cut l k (k + 2 + u.length)) = [34 :: ((rdQ [] (l.drop (k + 1))).1 ++ [34])] := by
      rw [show k + 2 + u.length = k + 1 + (u.length + 1) by omega, hcut]
      have e2 : (l.drop (k + 1)).take (u.length + 1) = u ++ [34] := by rw [h1]; simp [List.take_append, List.take_of_length_le]
      refine parse_q (e := false) (q := false) ?_
      rw [e2, List.foldl_cons, hst, h3]
      simp
    rw [hq, hp]
    refine ⟨inner_q, ?_, by dsimp only; omega, by dsimp only; omega⟩
    rw [h2]
    have e3 : l.drop (k + 2 + u.length) = (l.drop (k + 1)).drop (u.length + 1) := by rw [List.drop_drop]; congr 1; omega
    dsimp only
    rw [e3, h1]
    simp
  · have hq : quotedL l k = (inner (parseL (l.drop k ++ [34])), l.length) := by
      refine quoted_miss fun i hi => ?_
      unfold qcond
      rw [show k + 2 + i = k + 1 + (i + 1) by omega, hcut, shut_quo, List.foldl_cons, hst, h3 _ (by omega)]
      simp
    have hp : parseL (l.drop k ++ [34]) = [34 :: ((rdQ [] (l.drop (k + 1))).1 ++ [34])] := by
      rw [e1]
      have : ∃ e q, ((34 :: l.drop (k + 1)) ++ [34]).foldl pstep pinit = ⟨[], 34 :: ((rdQ [] (l.drop (k + 1))).1 ++ [34]), e, q⟩ := by
        rw [foldl_snoc, List.foldl_cons, hst, h2]
        cases x <;> simp [pstep]
      obtain ⟨e, q, this⟩ := this
      exact parse_q this
    rw [hq, hp]
    refine ⟨inner_q, ?_, by dsimp only; omega, Nat.le_refl _⟩
    rw [h1]; simp
end Mine
end
section
open PySem PySem.W PyProof.Rows PySem.Calls
namespace Mine
theorem qt_ne34 (c : Nat) : qt c ≠ 34 := by unfold qt; split <;> omega
theorem qt_92 {c : Nat} : qt c = 92 ↔ c = 92 := by unfold qt; split <;> omega
theorem uq_qt {c : Nat} (h : c ≠ 57344) : uq (qt c) = c := by
  unfold uq qt; split <;> (try split) <;> omega
theorem map_uq_qt {l : List Nat} (h : 57344 ∉ l) : (l.map qt).map uq = l := by
  rw [List.map_map]
  conv => rhs; rw [← List.map_id l]
  exact List.map_congr_left fun c hc => uq_qt fun e => h (e ▸ hc)
theorem isW_92 : isW 92 = false := by decide
/-- a bare word: what the lexer reads of it, and the list reader's states on the way, its quotes set aside -/
theorem rdB_scan (res : List (List Nat)) (p : List Nat) : ∀ (n : Nat) (r acc : List Nat), r.length ≤ n →
    (∃ u c v, r = u ++ c :: v ∧ isW c = true ∧ (rdB acc r).2 = v ∧ (u.map qt).foldl pstep ⟨res, p ++ acc.map qt, false, true⟩ = ⟨res, p ++ (rdB acc r).1.map qt, false, true⟩ ∧ ∀ k (h : k < u.length), isW u[k] = true → (((u.take k).map qt).foldl pstep ⟨res, p ++ acc.map qt, false, true⟩).esc = true) ∨
    ((rdB acc r).2 = [] ∧ (∃ e, (r.map qt).foldl pstep ⟨res, p ++ acc.map qt, false, true⟩ = ⟨res, p ++ (rdB acc r).1.map qt, e, true⟩) ∧ ∀ k (h : k < r.length), isW r[k] = true → (((r.take k).map qt).foldl pstep ⟨res, p ++ acc.map qt, false, true⟩).esc = true)
  | _, [], acc, _ => .inr ⟨by simp [rdB], ⟨false, by simp [rdB]⟩, by simp⟩
  | 0, _ :: _, _, h => absurd h (by simp)
  | n + 1, c :: r, acc, h => by
    have h' : r.length ≤ n := by simpa using h
    by_cases hW : isW c = true
    · left
      exact ⟨[], c, r, rfl, hW, by rw [rdB_w hW], by rw [rdB_w hW]; rfl, by simp⟩
    · have hW' : isW c = false := by simpa using hW
      by_cases h92 : c = 92
      · subst h92
        cases r with
        | nil =>
          right
          refine ⟨by simp [rdB, isW_92], ⟨true, by simp [rdB, pstep, isW_92, qt]⟩, ?_⟩
          intro k hk
          simp at hk
          subst hk
          simp [isW_92]
        | cons d r2 =>
          have e : rdB acc (92 :: d :: r2) = rdB (acc ++ [d]) r2 := rdB_92
          have st : ∀ u : List Nat, ((92 :: d :: u).map qt).foldl pstep ⟨res, p ++ acc.map qt, false, true⟩ = (u.map qt).foldl pstep ⟨res, p ++ (acc ++ [d]).map qt, false, true⟩ := fun u => by
            have : qt 92 = 92 := by decide
            simp [pstep, this]
          have sq : ∀ (u : List Nat), (∀ k (h : k < u.length), isW u[k] = true → (((u.take k).map qt).foldl pstep ⟨res, p ++ (acc ++ [d]).map qt, false, true⟩).esc = true) → ∀ k (h : k < (92 :: d :: u).length), isW (92 :: d :: u)[k] = true → ((((92 :: d :: u).take k).map qt).foldl pstep ⟨res, p ++ acc.map qt, false, true⟩).esc = true := by
            intro u hu k hk hw
            match k with
            | 0 => simp [isW_92] at hw
            | 1 =>
              have : qt 92 = 92 := by decide
              simp [pstep, this]
            | k + 2 =>
              rw [List.take_succ_cons, List.take_succ_cons, st]
              exact hu k (by simpa using hk) (by simpa using hw)
          rw [e]
          rcases rdB_scan res p n r2 (acc ++ [d]) (by simp at h'; omega) with ⟨u, c, v, e1, e1', e2, e3, e4⟩ | ⟨e1, ⟨x, e2⟩, e3⟩
          · exact .inl ⟨92 :: d :: u, c, v, by rw [e1]; rfl, e1', e2, (st _).trans e3, sq u e4⟩
          · exact .inr ⟨e1, ⟨x, (st r2).trans e2⟩, sq r2 e3⟩
      · have e : rdB acc (c :: r) = rdB (acc ++ [c]) r := rdB_c hW' h92
        have st : ∀ u : List Nat, ((c :: u).map qt).foldl pstep ⟨res, p ++ acc.map qt, false, true⟩ = (u.map qt).foldl pstep ⟨res, p ++ (acc ++ [c]).map qt, false, true⟩ := fun u => by
          simp [pstep, qt_ne34, qt_92, h92]
        have sq : ∀ (u : List Nat), (∀ k (h : k < u.length), isW u[k] = true → (((u.take k).map qt).foldl pstep ⟨res, p ++ (acc ++ [c]).map qt, false, true⟩).esc = true) → ∀ k (h : k < (c :: u).length), isW (c :: u)[k] = true → ((((c :: u).take k).map qt).foldl pstep ⟨res, p ++ acc.map qt, false, true⟩).esc = true := by
          intro u hu k hk hw
          match k with
          | 0 => simp [hW'] at hw
          | k + 1 =>
            rw [List.take_succ_cons, st]
            exact hu k (by simpa using hk) (by simpa using hw)
        rw [e]
        rcases rdB_scan res p n r (acc ++ [c]) h' with ⟨u, c', v, e1, e1', e2, e3, e4⟩ | ⟨e1, ⟨x, e2⟩, e3⟩
        · exact .inl ⟨c :: u, c', v, by rw [e1]; rfl, e1', e2, (st _).trans e3, sq u e4⟩
        · exact .inr ⟨e1, ⟨x, (st r).trans e2⟩, sq r e3⟩
/-- no quote: a quote that is open stays so -/
theorem noq_quo (l : List Nat) : ∀ {c : PS}, c.quo = true → ((l.map qt).foldl pstep c).quo = true := by
  induction l with
  | nil => exact fun h => h
  | cons n l ih =>
    intro c h
    refine ih ?_
    obtain ⟨res, part, esc, quo⟩ := c
    simp at h
    subst h
    cases esc <;> simp [pstep, qt_ne34] <;> split <;> rfl
theorem rdB_mem : ∀ (n : Nat) (r acc : List Nat), r.length ≤ n → ∀ c ∈ (rdB acc r).1, c ∈ acc ∨ c ∈ r
  | _, [], acc, _ => by simp [rdB]
  | 0, _ :: _, _, h => absurd h (by simp)
  | n + 1, c :: r, acc, h => by
    have h' : r.length ≤ n := by simpa using h
    by_cases hW : isW c = true
    · rw [rdB_w hW]; exact fun d hd => .inl hd
    · have hW' : isW c = false := by simpa using hW
      by_cases h92 : c = 92
      · subst h92
        cases r with
        | nil => rw [rdB_92n']; intro z hz; exact .inl (by simpa [rdB] using hz)
        | cons d r2 =>
          rw [rdB_92]
          intro z hz
          rcases rdB_mem n r2 _ (by simp at h'; omega) z hz with h | h
          · rcases List.mem_append.mp h with h | h
            · exact .inl h
            · rw [List.mem_singleton.mp h]; simp
          · exact .inr (.tail _ (.tail _ h))
      · rw [rdB_c hW' h92]
        intro z hz
        rcases rdB_mem n r _ h' z hz with h | h
        · rcases List.mem_append.mp h with h | h
          · exact .inl h
          · rw [List.mem_singleton.mp h]; simp
        · exact .inr (.tail _ h)
theorem cut_map {l : List Nat} {k i : Nat} : cut (l.map qt) k (k + i) = ((l.drop k).take i).map qt := by
  unfold cut; rw [← List.map_drop, ← List.map_take, show k + i - k = i by omega]
theorem bare_tok {l : List Nat} {k : Nat} (hk : k < l.length) (hn : 57344 ∉ l) (h0 : isW l[k] = false) : (bareL l k).1 = (rdB [] (l.drop k)).1 ∧ l.drop (bareL l k).2 = (rdB [] (l.drop k)).2 ∧ k < (bareL l k).2 ∧ (bareL l k).2 ≤ l.length := by
  have hst : pstep pinit 34 = ⟨[], [34] ++ ([] : List Nat).map qt, false, true⟩ := rfl
  have hlen : (l.drop k).length = l.length - k := List.length_drop ..
  have hw : 57344 ∉ (rdB [] (l.drop k)).1 := fun h => by
    rcases rdB_mem _ _ _ (Nat.le_refl _) _ h with h | h
    · simp at h
    · exact hn (List.mem_of_mem_drop h)
  have hbc : ∀ i (hi : k + i < l.length), bcond l k (k + i) = (isW l[k + i] && !(((l.drop k).take i).map qt |>.foldl pstep ⟨[], [34] ++ ([] : List Nat).map qt, false, true⟩).esc) := by
    intro i hi
    unfold bcond
    rw [List.getElem?_eq_getElem hi, shut_quo, List.foldl_cons, hst, List.foldl_append, cut_map]
    have hq := noq_quo ((l.drop k).take i) (c := ⟨[], [34] ++ ([] : List Nat).map qt, false, true⟩) rfl
    generalize (((l.drop k).take i).map qt).foldl pstep ⟨[], [34] ++ ([] : List Nat).map qt, false, true⟩ = c at hq
    obtain ⟨res, part, esc, quo⟩ := c
    simp at hq
    subst hq
    cases esc <;> simp [pstep]
  have hbend : ∀ (u : List Nat) (e : Bool), ((u.map qt).foldl pstep ⟨[], [34] ++ ([] : List Nat).map qt, false, true⟩ = ⟨[], [34] ++ (rdB [] (l.drop k)).1.map qt, e, true⟩) → (inner (parseL (34 :: (u.map qt ++ [34])))).map uq = (rdB [] (l.drop k)).1 := by
    intro u e hu
    have : ∃ e q, (34 :: (u.map qt ++ [34])).foldl pstep pinit = ⟨[], 34 :: ((rdB [] (l.drop k)).1.map qt ++ [34]), e, q⟩ := by
      rw [List.foldl_cons, hst, List.foldl_append, hu]
      cases e <;> simp [pstep]
    obtain ⟨e, q, this⟩ := this
    rw [parse_q this, inner_q, map_uq_qt hw]
  rcases rdB_scan [] [34] _ (l.drop k) [] (Nat.le_refl _) with ⟨u, c, v, h1, h1', h2, h3, h4⟩ | ⟨h1, ⟨x, h2⟩, h3⟩
  · have hul : u.length + 1 + v.length = l.length - k := by
      rw [← hlen, h1]; simp; omega
    have hget : ∀ i (hi : k + i < l.length), l[k + i]? = (u ++ c :: v)[i]? := by
      intro i hi
      rw [← h1, List.getElem?_drop]
    have hu0 : 0 < u.length := by
      cases u with
      | nil =>
        have := hget 0 (by omega)
        rw [List.getElem?_eq_getElem (by omega)] at this
        simp at this
        rw [this] at h0
        rw [h0] at h1'; cases h1'
      | cons => simp
    have hb : bend l k = k + u.length := by
      refine bend_hit (fun i hi1 hi2 => ?_) ?_ (by omega) (by omega)
      · obtain ⟨j, rfl⟩ : ∃ j, i = k + j := ⟨i - k, by omega⟩
        rw [hbc j (by omega)]
        cases hww : isW l[k + j]
        · rfl
        · have e2 := hget j (by omega)
          rw [List.getElem?_eq_getElem (by omega), List.getElem?_append_left (by omega), List.getElem?_eq_getElem (by omega)] at e2
          have e3 := Option.some.inj e2
          rw [h1, List.take_append_of_le_length (by omega), h4 j (by omega) (by rw [← e3]; exact hww)]
          rfl
      · rw [hbc _ (by omega)]
        have e2 := hget u.length (by omega)
        rw [List.getElem?_eq_getElem (by omega), List.getElem?_append_right (Nat.le_refl _)] at e2
        simp at e2
        rw [e2, h1', h1, List.take_append_of_le_length (Nat.le_refl _), List.take_length, h3]
        rfl
    have hcu : cut (l.map qt) k (k + u.length) = u.map qt := by
      rw [cut_map, h1, List.take_append_of_le_length (Nat.le_refl _), List.take_length]
    unfold bareL
    rw [hb, hcu]
    refine ⟨hbend u _ h3, ?_, by dsimp only; omega, by dsimp only; omega⟩
    dsimp only
    rw [h2, show min (k + u.length + 1) l.length = k + (u.length + 1) by omega, ← List.drop_drop, h1]
    simp
  · have hb : bend l k = l.length := by
      refine bend_miss fun i hi1 hi2 => ?_
      obtain ⟨j, rfl⟩ : ∃ j, i = k + j := ⟨i - k, by omega⟩
      rw [hbc j (by omega)]
      cases hww : isW l[k + j]
      · rfl
      · rw [h3 j (by omega) (by simpa using hww)]
        rfl
    have hcu : cut (l.map qt) k l.length = (l.drop k).map qt := by
      have := cut_map (l := l) (k := k) (i := l.length - k)
      rw [show k + (l.length - k) = l.length by omega] at this
      rw [this, List.take_of_length_le (by omega)]
    unfold bareL
    rw [hb, hcu]
    refine ⟨hbend _ _ h2, ?_, by dsimp only; omega, by dsimp only; omega⟩
    dsimp only
    rw [h1, show min (l.length + 1) l.length = l.length by omega]
    simp
theorem tokL_dropW (l : List Nat) : tokL l = tokL (l.dropWhile isW) := by
  induction l with
  | nil => rfl
  | cons c r ih =>
    rw [List.dropWhile_cons]
    split
    · rename_i h
      rw [← ih]
      simp [tokL, h]
    · rfl
/-- the lists tell each word of the lexer -/
theorem byL_tok {l : List Nat} {k : Nat} (hk : k < l.length) (hn : 57344 ∉ l) : tokL (l.drop k) = ((byL l k).1, l.drop (byL l k).2) ∧ k < (byL l k).2 ∧ (byL l k).2 ≤ l.length := by
  have hsuf : (l.drop k).dropWhile isW <:+ l := (List.dropWhile_suffix _).trans (List.drop_suffix _ _)
  have hwl : ((l.drop k).dropWhile isW).length ≤ l.length - k := by
    have := (List.dropWhile_suffix (l := l.drop k) isW).length_le
    simpa using this
  have hdr : l.drop (wend l k) = (l.drop k).dropWhile isW := by
    obtain ⟨t, ht⟩ := hsuf
    unfold wend
    have hl := congrArg List.length ht
    rw [List.length_append] at hl
    have : l.length - ((l.drop k).dropWhile isW).length = t.length := by omega
    rw [this]
    conv => lhs; rw [← ht]
    simp
  have hwk : k ≤ wend l k := by unfold wend; omega
  have hwle : wend l k ≤ l.length := by unfold wend; omega
  rw [tokL_dropW, ← hdr]
  unfold byL
  by_cases h1 : wend l k = l.length
  · rw [if_pos h1, h1]
    simp [tokL]
    omega
  · rw [if_neg h1]
    have hlt : wend l k < l.length := by omega
    have hc := List.drop_eq_getElem_cons hlt
    have hnw : isW l[wend l k] = false := by
      rw [hdr] at hc
      have := List.head_dropWhile_not (l := l.drop k) isW (fun e => by rw [hc] at e; cases e)
      simp only [hc, List.head_cons] at this
      simpa using this
    by_cases h34 : l[wend l k]? = some 34
    · rw [if_pos h34]
      obtain ⟨q1, q2, q3, q4⟩ := quoted_tok h34
      have e : l[wend l k] = 34 := by rw [List.getElem?_eq_getElem hlt] at h34; exact Option.some.inj h34
      refine ⟨?_, by omega, q4⟩
      rw [hc, e]
      simp only [tokL]
      rw [if_neg (by decide), if_pos trivial, q1, q2]
    · rw [if_neg h34]
      obtain ⟨q1, q2, q3, q4⟩ := bare_tok hlt hn hnw
      have e : l[wend l k] ≠ 34 := by rw [List.getElem?_eq_getElem hlt] at h34; simpa using h34
      refine ⟨?_, by omega, q4⟩
      rw [q1, q2, hc]
      simp only [tokL]
      rw [if_neg (by simp [hnw]), if_neg e]
end Mine
end
section
open PySem PySem.W PyProof.Rows PySem.Calls
namespace Mine
/-- D as it is written in quotes, a backslash ahead of each quote and backslash -/
def onceB (d : List Nat) : List Nat := subst 34 [92, 34] (subst 92 [92, 92] d)
def everyB (d : List Nat) : List Nat := d.flatMap fun c => [92, c]
theorem onceB_cons (c : Nat) (d : List Nat) : onceB (c :: d) = (if c = 92 then [92, 92] else if c = 34 then [92, 34] else [c]) ++ onceB d := by
  unfold onceB
  have e : subst 92 [92, 92] (c :: d) = (if c = 92 then [92, 92] else [c]) ++ subst 92 [92, 92] d := rfl
  rw [e, subst_append]
  congr 1
  by_cases h : c = 92
  · subst h; rfl
  · rw [if_neg h, if_neg h]
    by_cases h2 : c = 34
    · subst h2; rfl
    · simp [subst, h2]
theorem everyB_cons (c : Nat) (d : List Nat) : everyB (c :: d) = 92 :: c :: everyB d := rfl
theorem once_len (d : List Nat) : (onceB d).length ≤ 2 * d.length := by
  induction d with
  | nil => simp [onceB, subst]
  | cons c d ih =>
    rw [onceB_cons, List.length_append, List.length_cons]
    split
    · simp; omega
    · split <;> simp <;> omega
theorem every_len (d : List Nat) : (everyB d).length = 2 * d.length := by
  induction d with
  | nil => rfl
  | cons c d ih => rw [everyB_cons]; simp [ih]; omega
theorem once_fold (d : List Nat) : ∀ (p : List Nat), (onceB d).foldl pstep ⟨[], p, false, true⟩ = ⟨[], p ++ d, false, true⟩ := by
  induction d with
  | nil => intro p; simp [onceB, subst]
  | cons c d ih =>
    intro p
    rw [onceB_cons, List.foldl_append]
    have : (if c = 92 then [92, 92] else if c = 34 then [92, 34] else [c]).foldl pstep ⟨[], p, false, true⟩ = ⟨[], p ++ [c], false, true⟩ := by
      by_cases h : c = 92
      · subst h; simp [pstep]
      · by_cases h2 : c = 34
        · subst h2; simp [pstep]
        · simp [pstep, h, h2]
    rw [this, ih]
    simp
theorem every_fold (d : List Nat) : ∀ (p : List Nat), (everyB d).foldl pstep ⟨[], p, false, true⟩ = ⟨[], p ++ d, false, true⟩ := by
  induction d with
  | nil => intro p; simp [everyB]
  | cons c d ih =>
    intro p
    rw [everyB_cons, List.foldl_cons, List.foldl_cons]
    have : pstep (pstep ⟨[], p, false, true⟩ 92) c = ⟨[], p ++ [c], false, true⟩ := by simp [pstep]
    rw [this, ih]
    simp
theorem parse_written {b d : List Nat} (h : ∀ p, b.foldl pstep ⟨[], p, false, true⟩ = ⟨[], p ++ d, false, true⟩) : parseL (34 :: (b ++ [34])) = [34 :: (d ++ [34])] := by
  refine parse_q (e := false) (q := false) ?_
  rw [List.foldl_cons, List.foldl_append]
  have : pstep pinit 34 = ⟨[], [34], false, true⟩ := rfl
  rw [this, h]
  simp [pstep]
theorem parse_once (d : List Nat) : parseL (34 :: (onceB d ++ [34])) = [34 :: (d ++ [34])] := parse_written (once_fold d)
theorem parse_every (d : List Nat) : parseL (34 :: (everyB d ++ [34])) = [34 :: (d ++ [34])] := parse_written (every_fold d)
theorem rdQ_once (d : List Nat) : ∀ acc, rdQ acc (onceB d ++ [34]) = (acc ++ d, []) := by
  induction d with
  | nil => intro acc; simp [onceB, subst, rdQ]
  | cons c d ih =>
    intro acc
    rw [onceB_cons, List.append_assoc]
    by_cases h : c = 92
    · subst h; simp only [if_true, List.cons_append, List.nil_append]; rw [rdQ_92, ih]; simp
    · rw [if_neg h]
      by_cases h2 : c = 34
      · subst h2; simp only [if_true, List.cons_append, List.nil_append]; rw [rdQ_92, ih]; simp
      · rw [if_neg h2, List.cons_append, List.nil_append, rdQ_c h2 h, ih]; simp
theorem rdQ_every (d : List Nat) : ∀ acc, rdQ acc (everyB d ++ [34]) = (acc ++ d, []) := by
  induction d with
  | nil => intro acc; simp [everyB, rdQ]
  | cons c d ih => intro acc; rw [everyB_cons, List.cons_append, List.cons_append, rdQ_92, ih]; simp
theorem rdB_every (d : List Nat) : ∀ acc, rdB acc (everyB d) = (acc ++ d, []) := by
  induction d with
  | nil => intro acc; simp [everyB, rdB]
  | cons c d ih => intro acc; rw [everyB_cons, rdB_92, ih]; simp
theorem tok_once (d : List Nat) : (tokL (34 :: (onceB d ++ [34]))).1 = d := by
  simp only [tokL]; rw [if_neg (by decide), if_pos trivial, rdQ_once]; simp
theorem tok_everyQ (d : List Nat) : (tokL (34 :: (everyB d ++ [34]))).1 = d := by
  simp only [tokL]; rw [if_neg (by decide), if_pos trivial, rdQ_every]; simp
theorem tok_every (d : List Nat) : (tokL (everyB d)).1 = d := by
  cases d with
  | nil => rfl
  | cons c d =>
    rw [everyB_cons]
    simp only [tokL]
    rw [if_neg (by decide), if_neg (by decide), ← everyB_cons, rdB_every]; simp
end Mine
end
section
open PySem PySem.W PyProof.Rows PySem.Calls
namespace Mine
theorem setL_last : ∀ (vs : List Value) (v v' : Value), ki_setL (vs ++ [v]) vs.length v' = some (vs ++ [v'])
  | [], _, _ => rfl
  | x :: vs, v, v' => by
    show (match ki_setL (vs ++ [v]) vs.length v' with | some q => some (x :: q) | none => none) = _
    rw [setL_last vs v v']; rfl
section
variable {prog : Program} {w : World} {A : Around} {E : Value → Shared → Prop} {s : Shared} {h₀ : Heap} {L D : Addr} {m : Str → Option Value} {news news' : List (Addr × Obj)}
/-- xs[-1] = v -/
theorem set_last {vs : List Value} {v v' : Value} {n : Nat} {t : Tok} {Q : Unit → Shared → Prop} (F : Fr h₀ L s.heap m) (N : News h₀ L s.heap news) (U : Upd D (listOf (vs ++ [v]).toArray n) (listOf (vs ++ [v']).toArray n) news news')
    (h : ∀ h', Fr h₀ L h' m → News h₀ L h' news' → Q () { s with heap := h' }) : wpAny (model prog w) A (setItem (.ref D) (.int (-1) t) v') Q E s := by
  refine ki_setNeg (its := (vs ++ [v]).toArray) (j := vs.length) F N (by decide) (by decide) ?_ (setL_last vs v v') U h
  rw [PySem.seqIndex_neg (by decide) (by simp; omega)]
  congr 1
  simp
  omega
/-- xs[:-1] -/
theorem slice_initL {value slice : Expr} {l : Addr} {vs : List Value} {v : Value} {t : Tok} {Q : Value → Shared → Prop} (F : Fr h₀ L s.heap m) (N : News h₀ L s.heap news) (hl : s.heap.IsList l (vs ++ [v]).toArray) (hsz : vs.length ≤ 1000)
    (h : ∀ h', Fr h₀ L h' m → News h₀ L h' ((s.heap.objs.size + 1, listOf vs.toArray 0) :: news) → Q (.ref (s.heap.objs.size + 1)) { s with heap := h' })
    (hs : subscripted slice false (.ref l) (.ref s.heap.objs.size) = operate [.ref s.heap.objs.size, .ref l] (getItem (.ref l) (.ref s.heap.objs.size)) := by with_unfolding_all rfl)
    (ht : ∀ r, letTemporaryGo value (.ref l) r = pure () := by intro _; with_unfolding_all rfl) :
    wpAny (model prog w) A (subscriptTail value slice (.ref l) (.ref s.heap.objs.size)) Q E { s with heap := s.heap.push { cls := .type "slice", data := .fields #[.none, .int (-1) t, .none] } } := by
  refine slice_list F N hl .none (.int _ _) (fun h' F' N' => h h' F' ?_) hs ht (by rw [sizeLine_eq]; simp; omega)
  have e : slicePick (vs ++ [v]).toArray none (some (-1)) none = vs.toArray := by
    rw [kms_pick_eq]
    simp [kms_pick, kms_lo, kms_hi]
  rw [e] at N'
  exact N'
/-- list(text) -/
theorem list_S {l : List Nat} {x : Str} {t : Tok} {Q : Value → Shared → Prop} (hx : x = S l) (hl : l.length ≤ 1000) (hh : A.handled = none) (F : Fr h₀ L s.heap m) (N : News h₀ L s.heap news)
    (h : ∀ D h' tk (ys : List Value) n, Fr h₀ L h' m → News h₀ L h' ((D, listOf ys.toArray n) :: news) → StrsAre ys (l.map sgn) → (∀ p ∈ news, p.1 < D) → Q (.ref D) { s with heap := h', toks := tk }) :
    wpAny (model prog w) A (call (.type "list") [.str x t]) Q E s := by
  subst hx
  refine list_strD hh F N (fun h' tk ys F' N' _ hn _ P hc => ?_) (by rw [S_length, sizeLine_eq]; omega)
  obtain ⟨n, N2⟩ := made_enters P F' N' hn
  refine h _ h' tk ys n F' N2 ?_ fun p hp => Heap.lt_size (N p hp).1
  have hs := CarriedAll.strsOf (f := fun x => x) hc
  have e : signs (S l) = l.map sgn := by unfold signs; rw [S_list]
  rw [e, List.map_id'] at hs
  exact hs
end
/-- the ledger behind a call -/
theorem news_after {g h h' : Heap} {L : Addr} {m : Str → Option Value} {hid news add : List (Addr × Obj)} (k : Kept (hid.map (·.1)) h h') (F : Fr g L h m) (N1 : News g L h hid) (N : News g L h news) (hdis : ∀ p ∈ news, p.1 ∉ hid.map (·.1))
    (hadd : ∀ p ∈ add, h'.get? p.1 = some p.2 ∧ (h.get? p.1 = none ∨ p.1 ∈ hid.map (·.1))) : News g L h' (add ++ news) := by
  intro p hp
  rcases List.mem_append.mp hp with hp | hp
  · obtain ⟨e1, e2 | e2⟩ := hadd p hp
    · refine ⟨e1, fun q => ?_, ?_⟩
      · obtain ⟨oL, _, _, e, _⟩ := F.ns; rw [← q, e2] at e; cases e
      · cases q : g.get? p.1 with
        | none => rfl
        | some o' => rw [F.keep _ _ q] at e2; cases e2
    · obtain ⟨q, hq, e⟩ := List.mem_map.mp e2
      exact ⟨e1, e ▸ (N1 q hq).2.1, e ▸ (N1 q hq).2.2⟩
  · exact ⟨k _ _ (N p hp).1 (hdis p hp), (N p hp).2⟩
def ExOk (ex : List (Addr × Obj)) : Prop := ∀ p ∈ ex, ∃ vs t, p.2.data = .fields vs ∧ vs[1]? = some (.str lamQual t)
def NoCode (o : Obj) : Prop := ∀ vs t, o.data = .fields vs → vs[1]? = some (.str lamQual t) → False
theorem ex_ne {g h : Heap} {L : Addr} {news ex : List (Addr × Obj)} {b : Addr} {o : Obj} (N : News g L h news) (hx : ExOk ex) (hs : ∀ p ∈ ex, p ∈ news) (hb : (b, o) ∈ news) (ho : NoCode o) : ∀ p ∈ ex, p.1 ≠ b := by
  rintro p hp rfl
  obtain ⟨vs, t, e1, e2⟩ := hx p hp
  have e3 := (N _ (hs p hp)).1
  rw [(N _ hb).1] at e3
  have e4 := Option.some.inj e3
  dsimp only at e4
  rw [← e4] at e1
  exact ho _ _ e1 e2
theorem ex_off {g h : Heap} {L : Addr} {ex led : List (Addr × Obj)} (N : News g L h (led ++ ex)) (hx : ExOk ex) (hl : ∀ p ∈ led, NoCode p.2) : OwnOff ex (led.map (·.1)) := by
  intro p hp b hb
  obtain ⟨q, hq, rfl⟩ := List.mem_map.mp hb
  exact ex_ne N hx (fun p hp => List.mem_append_right _ hp) (List.mem_append_left _ hq) (hl q hq) p hp
theorem tab_not {o : Obj} {g : Heap} {ex : List (Addr × Obj)} (T : TabF g o ex) : NoCode o := by
  rcases T with rfl | ⟨c, rfl, -⟩ <;> intro vs t e1 e2 <;> cases e1 <;> cases e2
theorem list_not {its : Array Value} {n : Nat} : NoCode (listOf its n) := fun _ _ e _ => by cases e
theorem TabF.ofX {g h : Heap} {L : Addr} {m : Str → Option Value} {o : Obj} {news : List (Addr × Obj)} (T : Tab o h) (F : Fr g L h m) (N : News g L h news) : ∃ ex, TabF g o ex ∧ ExOk ex ∧ News g L h (news ++ ex) := by
  obtain ⟨ex, T', N'⟩ := TabF.of T F N
  rcases T' with rfl | ⟨c, rfl, hc | ⟨oc, vs, t, hm, e1, e2⟩⟩
  · exact ⟨[], .inl rfl, (fun _ h => nomatch h), by simpa using N⟩
  · exact ⟨[], .inr ⟨c, rfl, .inl hc⟩, (fun _ h => nomatch h), by simpa using N⟩
  · refine ⟨[(c, oc)], .inr ⟨c, rfl, .inr ⟨oc, vs, t, .head _, e1, e2⟩⟩, ?_, fun p hp => ?_⟩
    · intro p hp; rw [List.mem_singleton.mp hp]; exact ⟨vs, t, e1, e2⟩
    · rcases List.mem_append.mp hp with hp | hp
      · exact N p hp
      · rw [List.mem_singleton.mp hp]; exact N' _ (List.mem_append_left _ hm)
theorem tab_enter {h g : Heap} {o : Obj} (T : Tab o h) (ho : h.get? 77 = some o) (k : Kept [77] h g) : TabF g o [] := by
  rcases T with rfl | ⟨c, rfl, c', oc, vs, t, e1, e2, e3, e4⟩
  · exact .inl rfl
  · refine .inr ⟨c, rfl, .inl ⟨c', oc, vs, t, e1, k _ _ e2 fun hm => ?_, e3, e4⟩⟩
    rw [← List.mem_singleton.mp hm, e2] at ho
    have e6 := Option.some.inj ho
    rw [e6] at e3
    cases e3
    cases e4
end Mine
end
section
open PySem PySem.W PyProof.Rows PySem.Calls
namespace Mine
structure BL where
  init : List (List Nat)
  last : List Nat
  vs : List Value
  tl : Tok
  n : Nat
  e : Nat
  te : Tok
  o : Obj
  ex : List (Addr × Obj)
/-- the walk by hand stands at e as the list's reader does -/
def BLInv (l : List Nat) (init : List (List Nat)) (last : List Nat) (e : Nat) : Prop := e ≤ l.length ∧ ∃ e' q', (l.take e).foldl pstep pinit = ⟨init, last, e', q'⟩ ∧ (e < l.length → e' = false ∧ q' = false)
theorem fold_res_len (m : List Nat) : ∀ c : PS, (m.foldl pstep c).res.length ≤ c.res.length + m.length := by
  induction m with
  | nil => exact fun c => Nat.le_refl _
  | cons n m ih =>
    intro c
    have h1 := ih (pstep c n)
    have h2 := pstep_res c n
    simp only [List.foldl_cons, List.length_cons]
    omega
theorem BLInv.size {l : List Nat} {init : List (List Nat)} {last : List Nat} {e : Nat} (h : BLInv l init last e) : init.length ≤ l.length ∧ last.length ≤ l.length ∧ ∀ q ∈ init, q.length ≤ l.length := by
  obtain ⟨h1, e', q', h2, -⟩ := h
  have ht : (l.take e).length ≤ l.length := by simp; omega
  have h3 := fold_len (l.take e) pinit 0 (by decide) (fun _ h => nomatch h)
  have h4 := fold_res_len (l.take e) pinit
  rw [h2] at h3 h4
  simp only [pinit, List.length_nil] at h3 h4
  exact ⟨by omega, by have := h3.1; omega, fun q hq => by have := h3.2 q hq; omega⟩
theorem take_one {l : List Nat} {e : Nat} (he : e < l.length) : l.take (e + 1) = l.take e ++ [l[e]] := by
  rw [List.take_succ, List.getElem?_eq_getElem he]; rfl
theorem BLInv.start (l : List Nat) : BLInv l [] [] 0 := ⟨Nat.zero_le _, false, false, rfl, fun _ => ⟨rfl, rfl⟩⟩
theorem BLInv.sign {l : List Nat} {init : List (List Nat)} {last : List Nat} {e : Nat} (h : BLInv l init last e) (he : e < l.length) (h34 : l[e] ≠ 34) (h44 : l[e] ≠ 44) : BLInv l init (last ++ [l[e]]) (e + 1) := by
  obtain ⟨h1, e', q', h2, h3⟩ := h
  obtain ⟨rfl, rfl⟩ := h3 he
  refine ⟨he, false, false, ?_, fun _ => ⟨rfl, rfl⟩⟩
  rw [take_one he, List.foldl_append, h2]
  simp [pstep, h34, h44]
theorem BLInv.comma {l : List Nat} {init : List (List Nat)} {last : List Nat} {e : Nat} (h : BLInv l init last e) (he : e < l.length) (h44 : l[e] = 44) : BLInv l (init ++ [last]) [] (e + 1) := by
  obtain ⟨h1, e', q', h2, h3⟩ := h
  obtain ⟨rfl, rfl⟩ := h3 he
  refine ⟨he, false, false, ?_, fun _ => ⟨rfl, rfl⟩⟩
  rw [take_one he, List.foldl_append, h2]
  simp [pstep, h44]
theorem BLInv.quote {l : List Nat} {init : List (List Nat)} {last : List Nat} {e : Nat} (h : BLInv l init last e) (he : e < l.length) (h34 : l[e] = 34) :
    (∃ v, (tokL (l.drop e ++ [120])).2 = v ++ [120] ∧ v.length ≤ l.length - (e + 1) ∧ BLInv l init (last ++ (34 :: ((tokL (l.drop e ++ [120])).1 ++ [34]))) (l.length - v.length)) ∨
    ((tokL (l.drop e ++ [120])).2 = [] ∧ BLInv l init (last ++ (34 :: (tokL (l.drop e ++ [120])).1.dropLast)) l.length) := by
  obtain ⟨h1, e', q', h2, h3⟩ := h
  obtain ⟨rfl, rfl⟩ := h3 he
  have hd : l.drop e = 34 :: l.drop (e + 1) := by rw [List.drop_eq_getElem_cons he, h34]
  have ht : tokL (l.drop e ++ [120]) = rdQ [] (l.drop (e + 1) ++ [120]) := by
    rw [hd, List.cons_append]; simp only [tokL]; rw [if_neg (by decide), if_pos trivial]
  rw [ht]
  have hst : (l.take (e + 1)).foldl pstep pinit = ⟨init, (last ++ [34]) ++ [], false, true⟩ := by
    rw [take_one he, List.foldl_append, h2, h34]
    simp [pstep]
  have hlen : (l.drop (e + 1)).length = l.length - (e + 1) := List.length_drop ..
  rcases rdQ_fold init (last ++ [34]) _ (l.drop (e + 1)) [] (Nat.le_refl _) with ⟨u, v, e1, e2, e3⟩ | ⟨e1, x, q, e2⟩
  · left
    have huv : u.length + v.length = l.length - (e + 1) := by rw [← hlen, e1]; simp
    refine ⟨v, e2, by omega, by omega, false, false, ?_, fun _ => ⟨rfl, rfl⟩⟩
    have e4 : l.take (l.length - v.length) = l.take (e + 1) ++ u := by
      rw [show l.length - v.length = (e + 1) + u.length by omega, List.take_add, e1]
      simp
    rw [e4, List.foldl_append, hst, e3]
    simp
  · right
    refine ⟨e1, Nat.le_refl _, x, q, ?_, fun h => absurd h (Nat.lt_irrefl _)⟩
    have e4 : l.take l.length = l.take (e + 1) ++ l.drop (e + 1) := by simp
    rw [e4, List.foldl_append, hst, e2]
    simp
theorem BLInv.done {l : List Nat} {init : List (List Nat)} {last : List Nat} {e : Nat} (h : BLInv l init last e) (he : e = l.length) : parseL l = (if last = [] then init else init ++ [last]).map stripL := by
  obtain ⟨h1, e', q', h2, -⟩ := h
  subst he
  rw [List.take_length] at h2
  unfold parseL pfin
  rw [h2]
theorem rdQ_len : ∀ (n : Nat) (r acc : List Nat), r.length ≤ n → (rdQ acc r).1.length ≤ acc.length + r.length
  | _, [], acc, _ => by simp [rdQ]
  | 0, _ :: _, _, h => absurd h (by simp)
  | n + 1, c :: r, acc, h => by
    have h' : r.length ≤ n := by simpa using h
    by_cases h34 : c = 34
    · subst h34; rw [rdQ_34]; simp
    · by_cases h92 : c = 92
      · subst h92
        cases r with
        | nil => rw [rdQ_92n]; simp [rdQ]
        | cons d r2 =>
          rw [rdQ_92]
          have := rdQ_len n r2 (acc ++ [d]) (by simp at h'; omega)
          simp only [List.length_append, List.length_cons, List.length_nil] at this ⊢
          omega
      · rw [rdQ_c h34 h92]
        have := rdQ_len n r (acc ++ [c]) h'
        simp only [List.length_append, List.length_cons, List.length_nil] at this ⊢
        omega
theorem rdB_len : ∀ (n : Nat) (r acc : List Nat), r.length ≤ n → (rdB acc r).1.length ≤ acc.length + r.length
  | _, [], acc, _ => by simp [rdB]
  | 0, _ :: _, _, h => absurd h (by simp)
  | n + 1, c :: r, acc, h => by
    have h' : r.length ≤ n := by simpa using h
    by_cases hW : isW c = true
    · rw [rdB_w hW]; simp
    · have hW' : isW c = false := by simpa using hW
      by_cases h92 : c = 92
      · subst h92
        cases r with
        | nil => rw [rdB_92n']; simp [rdB]
        | cons d r2 =>
          rw [rdB_92]
          have := rdB_len n r2 (acc ++ [d]) (by simp at h'; omega)
          simp only [List.length_append, List.length_cons, List.length_nil] at this ⊢
          omega
      · rw [rdB_c hW' h92]
        have := rdB_len n r (acc ++ [c]) h'
        simp only [List.length_append, List.length_cons, List.length_nil] at this ⊢
        omega
theorem tok_len : ∀ l : List Nat, (tokL l).1.length ≤ l.length
  | [] => by simp [tokL]
  | c :: r => by
    simp only [tokL]
    split
    · have := tok_len r; simp; omega
    · split
      · have := rdQ_len _ r [] (Nat.le_refl _); simp at this ⊢; omega
      · have := rdB_len _ (c :: r) [] (Nat.le_refl _); simpa using this
end Mine
end
section
open PySem PySem.W PyProof.Rows PySem.Calls
namespace Mine
theorem lex_split {w : World} {a : LexA} {ln : Int} {tl : Tok} {vs : List Value} {n : Nat} : lexLed w a ln tl vs n = lexParts w a ln tl ++ [(a.sg, listOf vs.toArray n)] := rfl
theorem lex_not {w : World} {a : LexA} {ln : Int} {tl : Tok} {vs : List Value} {n : Nat} : ∀ p ∈ lexLed w a ln tl vs n, NoCode p.2 := fun p hp vs' _ e _ => lex_data p hp vs' e
theorem lex_above {w : World} {a : LexA} {ln : Int} {tl : Tok} {vs : List Value} {n : Nat} (ok : LexOk a) : ∀ p ∈ lexLed w a ln tl vs n, @LE.le Nat _ a.sg p.1 := by
  have o1 := ltN ok.o1; have o2 := ltN ok.o2; have o3 := ltN ok.o3; have o4 := ltN ok.o4; have o5 := ltN ok.o5; have o6 := ltN ok.o6; have o7 := ltN ok.o7
  refine List.forall_mem_cons.mpr ⟨?_, List.forall_mem_cons.mpr ⟨?_, List.forall_mem_cons.mpr ⟨?_, List.forall_mem_cons.mpr ⟨?_, List.forall_mem_cons.mpr ⟨?_, List.forall_mem_cons.mpr ⟨?_, List.forall_mem_cons.mpr ⟨?_, List.forall_mem_cons.mpr ⟨?_, List.forall_mem_nil _⟩⟩⟩⟩⟩⟩⟩⟩
  all_goals (dsimp only; omega)
/-- behind the maker of lexers -/
theorem made_news {w : World} {g h h' : Heap} {L : Addr} {m : Str → Option Value} {a : LexA} {tl : Tok} {o : Obj} {news ex : List (Addr × Obj)} (k : Kept [77] h h') (F : Fr g L h m) (N : News g L h (news ++ (77, o) :: ex)) (hn : ∀ p ∈ news, p.1 ≠ 77)
    (e1 : ∀ p ∈ lexParts w a 1 tl, h'.get? p.1 = some p.2) (e2 : ∀ p ∈ lexParts w a 1 tl, h.get? p.1 = none) (e3 : h'.get? 77 = some (tabHit a.c)) (hc : h'.CodeRec (.ref a.c) lamQual) :
    Fr g L h' m ∧ ∃ ex', TabF g (tabHit a.c) ex' ∧ ExOk ex' ∧ News g L h' (lexParts w a 1 tl ++ (news ++ (77, tabHit a.c) :: ex')) := by
  have hm : (77, o) ∈ news ++ (77, o) :: ex := List.mem_append_right _ (.head _)
  have F' : Fr g L h' m := kept_fr_led (hid := [(77, o)]) k F N (fun p hp => by rw [List.mem_singleton.mp hp]; exact hm)
  have N1 : News g L h [(77, o)] := fun p hp => by rw [List.mem_singleton.mp hp]; exact N _ hm
  have N2 : News g L h' ((lexParts w a 1 tl ++ [(77, tabHit a.c)]) ++ news) := by
    refine news_after (hid := [(77, o)]) k F N1 (fun p hp => N p (List.mem_append_left _ hp)) (fun p hp hm => hn p hp (List.mem_singleton.mp hm)) fun p hp => ?_
    rcases List.mem_append.mp hp with hp | hp
    · exact ⟨e1 p hp, .inl (e2 p hp)⟩
    · rw [List.mem_singleton.mp hp]; exact ⟨e3, .inr (List.mem_singleton.mpr rfl)⟩
  obtain ⟨ex', T', x', N3⟩ := TabF.ofX (o := tabHit a.c) (.inr ⟨a.c, rfl, hc⟩) F' N2
  refine ⟨F', ex', T', x', fun p hp => N3 p ?_⟩
  simp only [List.mem_append, List.mem_cons, List.not_mem_nil, or_false] at hp ⊢
  rcases hp with hp | hp | hp | hp
  · exact .inl (.inl (.inl hp))
  · exact .inl (.inr hp)
  · exact .inl (.inl (.inr hp))
  · exact .inr hp
/-- behind get_token -/
theorem tok_news {w : World} {g h h' : Heap} {L : Addr} {m : Str → Option Value} {a : LexA} {ln ln' : Int} {tl tl' : Tok} {vs vs' : List Value} {n n' : Nat} {o : Obj} {news ex : List (Addr × Obj)} (k : Kept ((lexLed w a ln tl vs n).map (·.1)) h h') (F : Fr g L h m) (N : News g L h (lexLed w a ln tl vs n ++ (news ++ (77, o) :: ex)))
    (ok : LexOk a) (hn : ∀ p ∈ news, @LT.lt Nat _ p.1 a.sg) (h77 : @LT.lt Nat _ 77 a.sg) (hx : ExOk ex) (hg : ∀ p ∈ lexLed w a ln' tl' vs' n', h'.get? p.1 = some p.2) :
    Fr g L h' m ∧ News g L h' (lexLed w a ln' tl' vs' n' ++ (news ++ (77, o) :: ex)) := by
  have hs : ∀ p ∈ lexLed w a ln tl vs n, p ∈ lexLed w a ln tl vs n ++ (news ++ (77, o) :: ex) := fun p hp => List.mem_append_left _ hp
  have F' : Fr g L h' m := kept_fr_led k F N hs
  have hoff : OwnOff ex ((lexLed w a ln tl vs n).map (·.1)) := by
    refine ex_off (h := h) (g := g) (L := L) (fun p hp => N p ?_) hx lex_not
    rcases List.mem_append.mp hp with hp | hp
    · exact List.mem_append_left _ hp
    · exact List.mem_append_right _ (List.mem_append_right _ (.tail _ hp))
  refine ⟨F', news_after k F (fun p hp => N p (hs p hp)) (fun p hp => N p (List.mem_append_right _ hp)) (fun p hp hm => ?_) fun p hp => ⟨hg p hp, .inr ?_⟩⟩
  · obtain ⟨q, hq, e⟩ := List.mem_map.mp hm
    have hq' := lex_above ok q hq
    rcases List.mem_append.mp hp with hp | hp
    · have := hn p hp
      rw [e] at hq'
      exact absurd (Nat.lt_of_lt_of_le this hq') (Nat.lt_irrefl _)
    · rcases List.mem_cons.mp hp with rfl | hp
      · rw [e] at hq'
        exact absurd (Nat.lt_of_lt_of_le h77 hq') (Nat.lt_irrefl _)
      · exact hoff p hp _ hm rfl
  · have e : (lexLed w a ln tl vs n).map (·.1) = (lexLed w a ln' tl' vs' n').map (·.1) := rfl
    rw [e]; exact List.mem_map_of_mem hp
end Mine
end
section
open PySem PySem.W PyProof.Rows PySem.Calls PySem.SeqAt
namespace Mine
theorem strs_at : ∀ {xs ys : List Value} {ns : List Str}, StrsAre xs ns → StrsAre ys ns → ∀ (j : Nat) (h1 : j < xs.length) (h2 : j < ys.length), ∃ x t u, xs[j] = .str x t ∧ ys[j] = .str x u := by
  intro xs ys ns hi
  induction hi generalizing ys with
  | nil => intro _ j h1; exact absurd h1 (Nat.not_lt_zero _)
  | cons x t _ ih =>
    intro hj j h1 h2
    cases hj with
    | cons _ u hj =>
      cases j with
      | zero => exact ⟨x, t, u, rfl, rfl⟩
      | succ j => exact ih hj j (by simpa using h1) (by simpa using h2)
theorem strs_len {xs : List Value} {ns : List Str} (h : StrsAre xs ns) : xs.length = ns.length := by
  have := strs_size h; simp only [List.size_toArray] at this; omega
section
variable {prog : Program} {w : World} {A : Around} {E : Value → Shared → Prop} {s : Shared} {a b : Addr} {xs ys : List Value} {ns ms : List Str} {Q : Value → Shared → Prop}
theorem ne_same (ha : s.heap.IsList a xs.toArray) (hb : s.heap.IsList b ys.toArray) (hi : StrsAre xs ns) (hj : StrsAre ys ns) (hu : A.units < cLine) (h : Q (.bool false) s) :
    wpAny (model prog w) A (compareOp .NotEq (.ref a) (.ref b)) Q E s := by
  refine RcNeAt.lists (e := fun _ => true) ha hb (by have := strs_len hi; have := strs_len hj; simp; omega) hu (fun j h1 h2 => ?_) prog w E Q ?_
  · obtain ⟨x, t, u, e1, e2⟩ := strs_at hi hj j (by simpa using h1) (by simpa using h2)
    have e1' : xs.toArray[j] = .str x t := by simpa using e1
    have e2' : ys.toArray[j] = .str x u := by simpa using e2
    rw [e1', e2']
    have := EqAt.str_str (A := A.in1) (s := s) x t x u
    rwa [beq_self_eq_true] at this
  · have : (List.range xs.toArray.size).all (fun _ => true) = true := by simp
    rw [this]; exact h
theorem ne_nil (ha : s.heap.IsList a xs.toArray) (hb : s.heap.IsList b #[]) (hu : A.units < cLine) (h : Q (.bool (!decide (xs = []))) s) :
    wpAny (model prog w) A (compareOp .NotEq (.ref a) (.ref b)) Q E s := by
  cases xs with
  | nil => exact ne_same (xs := []) (ys := []) (ns := []) ha hb .nil .nil hu (by simpa using h)
  | cons x xs => exact RcNeAt.lists_lengths ha hb (by simp) hu prog w E Q (by simpa using h)
end
end Mine
end
section
open PySem PySem.W PyProof.Rows PySem.Calls
namespace Mine
set_option pp.deepTerms false
set_option pp.deepTerms.threshold 8
set_option pp.maxSteps 3000
theorem fresh77 {h g : Heap} {b : Addr} (k : Kept [77] h g) (hn : g.get? b = none) (hb : b ≠ 77) : h.get? b = none := by
  cases q : h.get? b with
  | none => rfl
  | some o => rw [k _ _ q (fun z => hb (List.mem_singleton.mp z))] at hn; cases hn
set_option maxRecDepth 100000 in
set_option maxHeartbeats 8000000 in
theorem by_lexers_told {w : World} {l : List Nat} {t : Tok} {o : Obj} (hl : l.length ≤ 400) : ToldP w 87 [.str (S l) t] [(77, o)] 500 5000 (fun h => Tab o h) (fun r h h' => IsParse l r h h' ∧ ∃ o', h'.get? 77 = some o' ∧ Tab o' h') := by
  w_top off
  intro A s R H hT0 hret
  have hk' : (hd.heap_39 w.params).In s.heap → True := fun _ => trivial
  revert hk'
  k_fill
  intro _
  have h77 := H.news _ (.head _)
  ((k_dflt (refine' enter ‹At _ _ _ _ _ _› ?kd ?k6 ?k7 ?k9 ?kB ?c5 ?_ ?c2 ?c3 ?c4; (case kd => decide); (case k6 => k_is); (case k7 => k_is); (case k9 => exact BindsTo.of_eq rfl); (case c5 => decide); (case kB => exact locs rfl); (case c2 => exact rfl); (case c3 => exact rfl); (case c4 => exact rfl))))
  intro A₀ base outer g h₁ L p loose mean mg mb hkept hgs hL F N B X T C
  have hTF := tab_enter hT0 h77 hkept
  have hsz := sz_S (l := l) (k := 1000) (by omega)
  have hlen := S_length l
  (try k_unmd)
  (try k_fold)
  (repeat ((fail_if_success (with_reducible show wpAny _ _ (exec (Stmt.While _ _ _ _) _) _ _ _)); ((first | (k_unfold; (try dsimp only)) | walk1 | (dsimp only; walk1) | (leave1; (try dsimp only))))))
  (rename News _ _ _ _ => lN)
  (rename Fr _ _ _ _ => lF)
  (rename_i D _ hD _ _)
  with_unfolding_all refine' ksw_whileJ (σ := BL) (fun c => (D, listOf (c.vs ++ [Value.str (S c.last) c.tl]).toArray c.n) :: (77, c.o) :: c.ex) (fun c => [(Str.ofString "place", .int (c.e : Int) c.te)]) (fun c => StrsAre c.vs (c.init.map S)) [Str.ofString "sign", Str.ofString "signs", Str.ofString "word"] (fun c => BLInv l c.init c.last c.e ∧ TabF g c.o c.ex ∧ ExOk c.ex) (fun c => l.length - c.e) ⟨[], [], [], ?tl0, 0, 0, ?te0, o, []⟩ lF lN ?hf0 ?hk0 ?hp0 ?turn
  case hf0 => exact .nil
  case hk0 => exact List.forall_mem_singleton.mpr (by with_unfolding_all rfl)
  case hp0 => exact ⟨BLInv.start l, hTF, fun _ h => nomatch h⟩
  case turn =>
    rintro ⟨init, last, vs, tl, n, e, te, o, ex⟩ J hJ u' h tk hv ⟨hinv, hTF, hEx⟩ lF' lN'
    clear lF lN
    dsimp only at hv hinv hTF hEx lF' lN'
    obtain ⟨hp3, hp4, hp5⟩ := hinv.size
    have hszl := sz_S (l := last) (k := 1000) (by omega)
    have hszv := sz_vs (k := 1000) hv (by omega)
    have hoff : OwnOff ex [D, 77] := by
      have hsub : ∀ p ∈ ex, p ∈ (D, listOf (vs ++ [Value.str (S last) tl]).toArray n) :: (77, o) :: ex := fun p hp => .tail _ (.tail _ hp)
      intro p hp b hb
      rcases List.mem_cons.mp hb with rfl | hb
      · exact ex_ne lN' hEx hsub (.head _) list_not p hp
      · rw [List.mem_singleton.mp hb]; exact ex_ne lN' hEx hsub (.tail _ (.head _)) (tab_not hTF) p hp
    (repeat' ((fail_if_success (with_reducible show wpAny _ _ (call (Value.builtin "len") [Value.ref _]) _ _ _)); (fail_if_success (with_reducible show KswPost _ _ _ _ _ _ _ _ _ _ _ _ _ _)); (fail_if_success (with_reducible show wpAny _ _ (call (Value.ref _) _) _ _ _)); (fail_if_success (with_reducible show wpAny _ _ (call (Value.type "list") _) _ _ _)); (fail_if_success (with_reducible show wpAny _ _ (setItem _ _ _) _ _ _)); (fail_if_success (with_reducible show wpAny _ _ (compareOp CmpOp.NotEq (Value.ref _) _) _ _ _)); (fail_if_success (with_reducible show wpAny _ _ (subscriptTail _ _ (Value.ref _) _) _ _ _)); (fail_if_success (with_reducible show wpAny _ _ (eval (Expr.ListComp _ _ _ _) _) _ _ _)); ((first | (k_unfold; (try dsimp only)) | walk1 | (dsimp only; walk1) | (leave1; (try dsimp only))))))
    · -- a quote
      (rename (Txt.item _ _ == _) = true => hq)
      (rename (e : Int) < _ => he)
      (rename News _ _ _ _ => lN)
      (rename Fr _ _ _ _ => lF)
      have he' : e < l.length := by omega
      have hit : Txt.item (S l) (e : Int) = ⟨#[l[e]]⟩ := item_S rfl (List.getElem?_eq_getElem he')
      rw [hit] at hq
      have q34 := sgnT (k := 34) (x := Str.ofString "\"") (by decide) hq
      have hsl : Txt.slice (S l) (some (e : Int)) none ++ Str.ofString "x" = S (l.drop e ++ [120]) := by rw [slice_from (by omega)]; exact S_append (l.drop e) [120]
      have hdl : (l.drop e ++ [120]).length ≤ 401 := by simp; omega
      refine list_S hsl (by omega) rfl lF lN ?_
      intro sg h2 tk2 ys n2 F2 N2 hys hlt
      clear lF lN
      dsimp only
      (repeat' ((fail_if_success (with_reducible show wpAny _ _ (call (Value.builtin "len") [Value.ref _]) _ _ _)); (fail_if_success (with_reducible show KswPost _ _ _ _ _ _ _ _ _ _ _ _ _ _)); (fail_if_success (with_reducible show wpAny _ _ (call (Value.ref _) _) _ _ _)); (fail_if_success (with_reducible show wpAny _ _ (call (Value.type "list") _) _ _ _)); (fail_if_success (with_reducible show wpAny _ _ (setItem _ _ _) _ _ _)); (fail_if_success (with_reducible show wpAny _ _ (compareOp CmpOp.NotEq (Value.ref _) _) _ _ _)); (fail_if_success (with_reducible show wpAny _ _ (subscriptTail _ _ (Value.ref _) _) _ _ _)); (fail_if_success (with_reducible show wpAny _ _ (eval (Expr.ListComp _ _ _ _) _) _ _ _)); ((first | (k_unfold; (try dsimp only)) | walk1 | (dsimp only; walk1) | (leave1; (try dsimp only))))))
      (rename News _ _ _ _ => lN)
      (rename Fr _ _ _ _ => lF)
      have hDs : @LT.lt Nat _ D sg := hlt _ (.head _)
      have h7s : @LT.lt Nat _ 77 sg := Nat.lt_trans hD hDs
      refine (lexer_told (o := o)).call (At.of (hid := [(77, o)]) B lF X T C lN (fun q hq => by rw [List.mem_singleton.mp hq]; exact .tail _ (.tail _ (.head _))) rfl rfl rfl rfl rfl (Nat.le_of_ble_eq_true rfl) (Nat.le_of_ble_eq_true rfl)) ⟨⟨_, (lN _ (.head _)).1⟩, hTF.tab lF lN (fun p hp => .tail _ (.tail _ (.tail _ hp)))⟩ ?_
      rintro r h3 tk3 hk3 ⟨a, tl3, rfl, rfl, ok, hp1, hp2, h77', hcode⟩
      obtain ⟨F3, ex3, T3, x3, N3⟩ := made_news (news := [(a.sg, _), (D, _)]) hk3 lF lN (List.forall_mem_cons.mpr ⟨fun h => Nat.lt_irrefl _ (h ▸ h7s), List.forall_mem_cons.mpr ⟨fun h => Nat.lt_irrefl _ (h ▸ hD), List.forall_mem_nil _⟩⟩) hp1 hp2 h77' hcode
      clear lF lN
      dsimp only [lexParts, lexLed, List.take, List.cons_append, List.nil_append] at N3
      (try dsimp only)
      (repeat' ((fail_if_success (with_reducible show wpAny _ _ (call (Value.builtin "len") [Value.ref _]) _ _ _)); (fail_if_success (with_reducible show KswPost _ _ _ _ _ _ _ _ _ _ _ _ _ _)); (fail_if_success (with_reducible show wpAny _ _ (call (Value.ref _) _) _ _ _)); (fail_if_success (with_reducible show wpAny _ _ (call (Value.type "list") _) _ _ _)); (fail_if_success (with_reducible show wpAny _ _ (setItem _ _ _) _ _ _)); (fail_if_success (with_reducible show wpAny _ _ (compareOp CmpOp.NotEq (Value.ref _) _) _ _ _)); (fail_if_success (with_reducible show wpAny _ _ (subscriptTail _ _ (Value.ref _) _) _ _ _)); (fail_if_success (with_reducible show wpAny _ _ (eval (Expr.ListComp _ _ _ _) _) _ _ _)); ((first | (k_unfold; (try dsimp only)) | walk1 | (dsimp only; walk1) | (leave1; (try dsimp only))))))
      (rename News _ _ _ _ => lN)
      (rename Fr _ _ _ _ => lF)
      have hys' := sz_vs' hys
      have hlex : ∀ q ∈ lexLed w a 1 tl3 ys n2, q ∈ lexLed w a 1 tl3 ys n2 ++ ([(D, listOf (vs ++ [Value.str (S last) tl]).toArray n)] ++ (77, tabHit a.c) :: ex3) := fun q hq => List.mem_append_left _ hq
      refine (tok_told ok hys (by omega) ⟨by decide, by omega⟩).call (At.of (hid := lexLed w a 1 tl3 ys n2) B lF X T C lN hlex rfl rfl rfl rfl rfl (Nat.le_of_ble_eq_true rfl) (Nat.le_of_ble_eq_true rfl)) hcode ?_
      rintro r h4 tk4 hk4 ⟨⟨t4, rfl⟩, tl4, vs4, n4, hv4, hg4⟩
      obtain ⟨F4, N4⟩ := tok_news (news := [(D, _)]) hk4 lF lN ok (List.forall_mem_singleton.mpr hDs) h7s x3 hg4
      clear lF lN
      have hwl := tok_len (l.drop e ++ [120])
      have hszw : (S (tokL (l.drop e ++ [120])).1).length ≤ 1000 := sz_S (by omega)
      have N5 : News g L h4 ((a.sg, listOf vs4.toArray n4) :: (D, listOf (vs ++ [Value.str (S last) tl]).toArray n) :: (77, tabHit a.c) :: ex3) := by
        intro p hp
        refine N4 p ?_
        rcases List.mem_cons.mp hp with rfl | hp
        · exact List.mem_append_left _ (.tail _ (.tail _ (.tail _ (.tail _ (.tail _ (.tail _ (.tail _ (.head _))))))))
        · exact List.mem_append_right _ hp
      clear N4 hg4
      rcases hinv.quote he' q34 with ⟨v, hrd, hvl, hinv'⟩ | ⟨hrd, hinv'⟩
      · rw [hrd] at hv4
        have hvs4 := sz_vs' hv4
        rw [List.length_append, List.length_singleton] at hvs4
        have hsz4 : vs4.length ≤ 1000 := by omega
        have hne : (!decide (vs4 = [])) = true := by
          cases vs4 with
          | nil => cases hvs4
          | cons => rfl
        (try dsimp only)
        (repeat' ((fail_if_success (with_reducible show wpAny _ _ (call (Value.builtin "len") [Value.ref _]) _ _ _)); (fail_if_success (with_reducible show KswPost _ _ _ _ _ _ _ _ _ _ _ _ _ _)); (fail_if_success (with_reducible show wpAny _ _ (call (Value.ref _) _) _ _ _)); (fail_if_success (with_reducible show wpAny _ _ (call (Value.type "list") _) _ _ _)); (fail_if_success (with_reducible show wpAny _ _ (setItem _ _ _) _ _ _)); (fail_if_success (with_reducible show wpAny _ _ (compareOp CmpOp.NotEq (Value.ref _) _) _ _ _)); (fail_if_success (with_reducible show wpAny _ _ (subscriptTail _ _ (Value.ref _) _) _ _ _)); (fail_if_success (with_reducible show wpAny _ _ (eval (Expr.ListComp _ _ _ _) _) _ _ _)); ((first | (k_unfold; (try dsimp only)) | walk1 | (dsimp only; walk1) | (leave1; (try dsimp only))))))
        (rename News _ _ _ _ => lN)
        (rename Fr _ _ _ _ => lF)
        refine item_last (News.isList lN (.tail _ (.head _))) ?_
        (repeat' ((fail_if_success (with_reducible show wpAny _ _ (call (Value.builtin "len") [Value.ref _]) _ _ _)); (fail_if_success (with_reducible show KswPost _ _ _ _ _ _ _ _ _ _ _ _ _ _)); (fail_if_success (with_reducible show wpAny _ _ (call (Value.ref _) _) _ _ _)); (fail_if_success (with_reducible show wpAny _ _ (call (Value.type "list") _) _ _ _)); (fail_if_success (with_reducible show wpAny _ _ (setItem _ _ _) _ _ _)); (fail_if_success (with_reducible show wpAny _ _ (compareOp CmpOp.NotEq (Value.ref _) _) _ _ _)); (fail_if_success (with_reducible show wpAny _ _ (subscriptTail _ _ (Value.ref _) _) _ _ _)); (fail_if_success (with_reducible show wpAny _ _ (eval (Expr.ListComp _ _ _ _) _) _ _ _)); ((first | (k_unfold; (try dsimp only)) | walk1 | (dsimp only; walk1) | (leave1; (try dsimp only))))))
        (rename News _ _ _ _ => lN2)
        (rename Fr _ _ _ _ => lF2)
        refine ne_nil (News.isList lN2 (.tail _ (.head _))) (News.isList lN2 (.head _)) (Nat.le_of_ble_eq_true rfl) ?_
        rw [hne]
        (repeat' ((fail_if_success (with_reducible show wpAny _ _ (call (Value.builtin "len") [Value.ref _]) _ _ _)); (fail_if_success (with_reducible show KswPost _ _ _ _ _ _ _ _ _ _ _ _ _ _)); (fail_if_success (with_reducible show wpAny _ _ (call (Value.ref _) _) _ _ _)); (fail_if_success (with_reducible show wpAny _ _ (call (Value.type "list") _) _ _ _)); (fail_if_success (with_reducible show wpAny _ _ (setItem _ _ _) _ _ _)); (fail_if_success (with_reducible show wpAny _ _ (compareOp CmpOp.NotEq (Value.ref _) _) _ _ _)); (fail_if_success (with_reducible show wpAny _ _ (subscriptTail _ _ (Value.ref _) _) _ _ _)); (fail_if_success (with_reducible show wpAny _ _ (eval (Expr.ListComp _ _ _ _) _) _ _ _)); ((first | (k_unfold; (try dsimp only)) | walk1 | (dsimp only; walk1) | (leave1; (try dsimp only))))))
        skip
        have hxD : ∀ p ∈ (77, tabHit a.c) :: ex3, p.1 ≠ D := List.forall_mem_cons.mpr ⟨fun h => Nat.lt_irrefl _ (h ▸ hD), ex_ne lN2 x3 (fun p hp => .tail _ (.tail _ (.tail _ (.tail _ hp)))) (.tail _ (.tail _ (.head _))) list_not⟩
        refine set_last (news := (a.sg, _) :: (D, _) :: (77, tabHit a.c) :: ex3) lF2 (fun p hp => lN2 p (.tail _ hp)) (.tail (fun h => Nat.lt_irrefl _ (h ▸ hDs)) (.head hxD)) ?_
        intro h6 F6 N6
        clear lF2 lN2
        have e6 : S last ++ (Str.ofString "\"" ++ S (tokL (l.drop e ++ [120])).1 ++ Str.ofString "\"") = S (last ++ (34 :: ((tokL (l.drop e ++ [120])).1 ++ [34]))) := by
          rw [show Str.ofString "\"" = S [34] by decide, S_append, S_append, S_append]; rfl
        rw [e6] at N6
        (try dsimp only)
        (repeat' ((fail_if_success (with_reducible show wpAny _ _ (call (Value.builtin "len") [Value.ref _]) _ _ _)); (fail_if_success (with_reducible show KswPost _ _ _ _ _ _ _ _ _ _ _ _ _ _)); (fail_if_success (with_reducible show wpAny _ _ (call (Value.ref _) _) _ _ _)); (fail_if_success (with_reducible show wpAny _ _ (call (Value.type "list") _) _ _ _)); (fail_if_success (with_reducible show wpAny _ _ (setItem _ _ _) _ _ _)); (fail_if_success (with_reducible show wpAny _ _ (compareOp CmpOp.NotEq (Value.ref _) _) _ _ _)); (fail_if_success (with_reducible show wpAny _ _ (subscriptTail _ _ (Value.ref _) _) _ _ _)); (fail_if_success (with_reducible show wpAny _ _ (eval (Expr.ListComp _ _ _ _) _) _ _ _)); ((first | (k_unfold; (try dsimp only)) | walk1 | (dsimp only; walk1) | (leave1; (try dsimp only))))))
        (rename News _ _ _ _ => lN)
        (rename Fr _ _ _ _ => lF)
        refine len_strsA (News.isList lN (.head _)) hv4 (by simp only [List.length_map, List.length_append, List.length_singleton]; omega) ?_
        rw [List.length_map, List.length_append, List.length_singleton]
        (repeat' ((fail_if_success (with_reducible show wpAny _ _ (call (Value.builtin "len") [Value.ref _]) _ _ _)); (fail_if_success (with_reducible show KswPost _ _ _ _ _ _ _ _ _ _ _ _ _ _)); (fail_if_success (with_reducible show wpAny _ _ (call (Value.ref _) _) _ _ _)); (fail_if_success (with_reducible show wpAny _ _ (call (Value.type "list") _) _ _ _)); (fail_if_success (with_reducible show wpAny _ _ (setItem _ _ _) _ _ _)); (fail_if_success (with_reducible show wpAny _ _ (compareOp CmpOp.NotEq (Value.ref _) _) _ _ _)); (fail_if_success (with_reducible show wpAny _ _ (subscriptTail _ _ (Value.ref _) _) _ _ _)); (fail_if_success (with_reducible show wpAny _ _ (eval (Expr.ListComp _ _ _ _) _) _ _ _)); ((first | (k_unfold; (try dsimp only)) | walk1 | (dsimp only; walk1) | (leave1; (try dsimp only))))))
        (rename News _ _ _ _ => lN)
        (rename Fr _ _ _ _ => lF)
        have hpl : (((S l).length : Nat) : Int) - (if 0 > ((v.length + 1 : Nat) : Int) - 1 then 0 else ((v.length + 1 : Nat) : Int) - 1) = ((l.length - v.length : Nat) : Int) := by rw [S_length]; split <;> omega
        rw [hpl] at lF
        refine hJ _ _ (ksw_end (σ := BL) ⟨init, last ++ (34 :: ((tokL (l.drop e ++ [120])).1 ++ [34])), vs, _, n, l.length - v.length, _, tabHit a.c, ex3⟩ lF lN (fun p hp => .tail _ hp) hv (List.forall_mem_singleton.mpr (by with_unfolding_all rfl)) (fun z hz hs => ?_) ⟨hinv', T3, x3⟩ (by dsimp only; omega))
        have hz1 := hz _ (.head _)
        dsimp only at hz1
        simp only [List.contains_cons, List.contains_nil, Bool.or_false, Bool.or_eq_false_iff, beq_eq_false_iff_ne, ne_eq] at hs
        obtain ⟨a1, a2, a3⟩ := hs
        simp [hz1, a1, a2, a3, kstB]
      · rw [hrd] at hv4
        have hvs4 := sz_vs' hv4
        rw [List.length_nil] at hvs4
        have hsz4 : vs4.length ≤ 1000 := by omega
        have hne : (!decide (vs4 = [])) = false := by
          cases vs4 with
          | nil => rfl
          | cons => cases hvs4
        (try dsimp only)
        (repeat' ((fail_if_success (with_reducible show wpAny _ _ (call (Value.builtin "len") [Value.ref _]) _ _ _)); (fail_if_success (with_reducible show KswPost _ _ _ _ _ _ _ _ _ _ _ _ _ _)); (fail_if_success (with_reducible show wpAny _ _ (call (Value.ref _) _) _ _ _)); (fail_if_success (with_reducible show wpAny _ _ (call (Value.type "list") _) _ _ _)); (fail_if_success (with_reducible show wpAny _ _ (setItem _ _ _) _ _ _)); (fail_if_success (with_reducible show wpAny _ _ (compareOp CmpOp.NotEq (Value.ref _) _) _ _ _)); (fail_if_success (with_reducible show wpAny _ _ (subscriptTail _ _ (Value.ref _) _) _ _ _)); (fail_if_success (with_reducible show wpAny _ _ (eval (Expr.ListComp _ _ _ _) _) _ _ _)); ((first | (k_unfold; (try dsimp only)) | walk1 | (dsimp only; walk1) | (leave1; (try dsimp only))))))
        (rename News _ _ _ _ => lN)
        (rename Fr _ _ _ _ => lF)
        refine item_last (News.isList lN (.tail _ (.head _))) ?_
        (repeat' ((fail_if_success (with_reducible show wpAny _ _ (call (Value.builtin "len") [Value.ref _]) _ _ _)); (fail_if_success (with_reducible show KswPost _ _ _ _ _ _ _ _ _ _ _ _ _ _)); (fail_if_success (with_reducible show wpAny _ _ (call (Value.ref _) _) _ _ _)); (fail_if_success (with_reducible show wpAny _ _ (call (Value.type "list") _) _ _ _)); (fail_if_success (with_reducible show wpAny _ _ (setItem _ _ _) _ _ _)); (fail_if_success (with_reducible show wpAny _ _ (compareOp CmpOp.NotEq (Value.ref _) _) _ _ _)); (fail_if_success (with_reducible show wpAny _ _ (subscriptTail _ _ (Value.ref _) _) _ _ _)); (fail_if_success (with_reducible show wpAny _ _ (eval (Expr.ListComp _ _ _ _) _) _ _ _)); ((first | (k_unfold; (try dsimp only)) | walk1 | (dsimp only; walk1) | (leave1; (try dsimp only))))))
        (rename News _ _ _ _ => lN2)
        (rename Fr _ _ _ _ => lF2)
        refine ne_nil (News.isList lN2 (.tail _ (.head _))) (News.isList lN2 (.head _)) (Nat.le_of_ble_eq_true rfl) ?_
        rw [hne]
        (repeat' ((fail_if_success (with_reducible show wpAny _ _ (call (Value.builtin "len") [Value.ref _]) _ _ _)); (fail_if_success (with_reducible show KswPost _ _ _ _ _ _ _ _ _ _ _ _ _ _)); (fail_if_success (with_reducible show wpAny _ _ (call (Value.ref _) _) _ _ _)); (fail_if_success (with_reducible show wpAny _ _ (call (Value.type "list") _) _ _ _)); (fail_if_success (with_reducible show wpAny _ _ (setItem _ _ _) _ _ _)); (fail_if_success (with_reducible show wpAny _ _ (compareOp CmpOp.NotEq (Value.ref _) _) _ _ _)); (fail_if_success (with_reducible show wpAny _ _ (subscriptTail _ _ (Value.ref _) _) _ _ _)); (fail_if_success (with_reducible show wpAny _ _ (eval (Expr.ListComp _ _ _ _) _) _ _ _)); ((first | (k_unfold; (try dsimp only)) | walk1 | (dsimp only; walk1) | (leave1; (try dsimp only))))))
        (rename News _ _ _ _ => lN2)
        (rename Fr _ _ _ _ => lF2)
        have hxD : ∀ p ∈ (77, tabHit a.c) :: ex3, p.1 ≠ D := List.forall_mem_cons.mpr ⟨fun h => Nat.lt_irrefl _ (h ▸ hD), ex_ne lN2 x3 (fun p hp => .tail _ (.tail _ (.tail _ (.tail _ hp)))) (.tail _ (.tail _ (.head _))) list_not⟩
        refine set_last (news := (a.sg, _) :: (D, _) :: (77, tabHit a.c) :: ex3) lF2 (fun p hp => lN2 p (.tail _ hp)) (.tail (fun h => Nat.lt_irrefl _ (h ▸ hDs)) (.head hxD)) ?_
        intro h6 F6 N6
        clear lF2 lN2
        have e6 : S last ++ (Str.ofString "\"" ++ Txt.slice (S (tokL (l.drop e ++ [120])).1) none (some (-1))) = S (last ++ (34 :: (tokL (l.drop e ++ [120])).1.dropLast)) := by
          rw [slice_init, show Str.ofString "\"" = S [34] by decide, S_append, S_append]; rfl
        rw [e6] at N6
        (try dsimp only)
        (repeat' ((fail_if_success (with_reducible show wpAny _ _ (call (Value.builtin "len") [Value.ref _]) _ _ _)); (fail_if_success (with_reducible show KswPost _ _ _ _ _ _ _ _ _ _ _ _ _ _)); (fail_if_success (with_reducible show wpAny _ _ (call (Value.ref _) _) _ _ _)); (fail_if_success (with_reducible show wpAny _ _ (call (Value.type "list") _) _ _ _)); (fail_if_success (with_reducible show wpAny _ _ (setItem _ _ _) _ _ _)); (fail_if_success (with_reducible show wpAny _ _ (compareOp CmpOp.NotEq (Value.ref _) _) _ _ _)); (fail_if_success (with_reducible show wpAny _ _ (subscriptTail _ _ (Value.ref _) _) _ _ _)); (fail_if_success (with_reducible show wpAny _ _ (eval (Expr.ListComp _ _ _ _) _) _ _ _)); ((first | (k_unfold; (try dsimp only)) | walk1 | (dsimp only; walk1) | (leave1; (try dsimp only))))))
        (rename News _ _ _ _ => lN)
        (rename Fr _ _ _ _ => lF)
        refine len_strsA (News.isList lN (.head _)) hv4 (by simp only [List.length_map, List.length_append, List.length_singleton, List.length_nil]; omega) ?_
        rw [List.length_map, List.length_nil]
        (repeat' ((fail_if_success (with_reducible show wpAny _ _ (call (Value.builtin "len") [Value.ref _]) _ _ _)); (fail_if_success (with_reducible show KswPost _ _ _ _ _ _ _ _ _ _ _ _ _ _)); (fail_if_success (with_reducible show wpAny _ _ (call (Value.ref _) _) _ _ _)); (fail_if_success (with_reducible show wpAny _ _ (call (Value.type "list") _) _ _ _)); (fail_if_success (with_reducible show wpAny _ _ (setItem _ _ _) _ _ _)); (fail_if_success (with_reducible show wpAny _ _ (compareOp CmpOp.NotEq (Value.ref _) _) _ _ _)); (fail_if_success (with_reducible show wpAny _ _ (subscriptTail _ _ (Value.ref _) _) _ _ _)); (fail_if_success (with_reducible show wpAny _ _ (eval (Expr.ListComp _ _ _ _) _) _ _ _)); ((first | (k_unfold; (try dsimp only)) | walk1 | (dsimp only; walk1) | (leave1; (try dsimp only))))))
        (rename News _ _ _ _ => lN)
        (rename Fr _ _ _ _ => lF)
        have hpl : (((S l).length : Nat) : Int) - (if 0 > ((0 : Nat) : Int) - 1 then 0 else ((0 : Nat) : Int) - 1) = ((l.length : Nat) : Int) := by rw [S_length]; split <;> omega
        rw [hpl] at lF
        refine hJ _ _ (ksw_end (σ := BL) ⟨init, last ++ (34 :: (tokL (l.drop e ++ [120])).1.dropLast), vs, _, n, l.length, _, tabHit a.c, ex3⟩ lF lN (fun p hp => .tail _ hp) hv (List.forall_mem_singleton.mpr (by with_unfolding_all rfl)) (fun z hz hs => ?_) ⟨hinv', T3, x3⟩ (by dsimp only; omega))
        have hz1 := hz _ (.head _)
        dsimp only at hz1
        simp only [List.contains_cons, List.contains_nil, Bool.or_false, Bool.or_eq_false_iff, beq_eq_false_iff_ne, ne_eq] at hs
        obtain ⟨a1, a2, a3⟩ := hs
        simp [hz1, a1, a2, a3, kstB]
    · -- a comma
      (rename (Txt.item _ _ == Str.ofString ",") = true => hq2)
      (rename (e : Int) < _ => he)
      (rename News _ _ _ _ => lN)
      (rename Fr _ _ _ _ => lF)
      have he' : e < l.length := by omega
      have hit : Txt.item (S l) (e : Int) = ⟨#[l[e]]⟩ := item_S rfl (List.getElem?_eq_getElem he')
      rw [hit] at hq2
      have q44 := sgnT (k := 44) (x := Str.ofString ",") (by decide) hq2
      try rw [List.push_toArray] at lN
      refine hJ _ _ (ksw_end (σ := BL) ⟨init ++ [last], [], vs ++ [Value.str (S last) tl], _, n + 1, e + 1, _, o, ex⟩ lF lN (fun p hp => hp) ?_ (List.forall_mem_singleton.mpr (by with_unfolding_all rfl)) (fun z hz hs => ?_) ⟨hinv.comma he' q44, hTF, hEx⟩ (by dsimp only; omega))
      · dsimp only; rw [List.map_append]; exact hv.append' (.cons _ _ .nil)
      have hz1 := hz _ (.head _)
      dsimp only at hz1
      simp only [List.contains_cons, List.contains_nil, Bool.or_false, Bool.or_eq_false_iff, beq_eq_false_iff_ne, ne_eq] at hs
      obtain ⟨a1, a2, a3⟩ := hs
      simp [hz1, a1, a2, a3, kstB]
    · -- another sign
      (rename (Txt.item _ _ == Str.ofString ",") = false => hq2)
      (rename (Txt.item _ _ == Str.ofString "\"") = false => hq)
      (rename (e : Int) < _ => he)
      (rename News _ _ _ _ => lN)
      (rename Fr _ _ _ _ => lF)
      have he' : e < l.length := by omega
      have hit : Txt.item (S l) (e : Int) = ⟨#[l[e]]⟩ := item_S rfl (List.getElem?_eq_getElem he')
      rw [hit] at hq hq2
      have q44 := sgnF (k := 44) (x := Str.ofString ",") (by decide) hq2
      have q34 := sgnF (k := 34) (x := Str.ofString "\"") (by decide) hq
      refine item_last (News.isList lN (.head _)) ?_
      (repeat' ((fail_if_success (with_reducible show wpAny _ _ (call (Value.builtin "len") [Value.ref _]) _ _ _)); (fail_if_success (with_reducible show KswPost _ _ _ _ _ _ _ _ _ _ _ _ _ _)); (fail_if_success (with_reducible show wpAny _ _ (call (Value.ref _) _) _ _ _)); (fail_if_success (with_reducible show wpAny _ _ (call (Value.type "list") _) _ _ _)); (fail_if_success (with_reducible show wpAny _ _ (setItem _ _ _) _ _ _)); (fail_if_success (with_reducible show wpAny _ _ (compareOp CmpOp.NotEq (Value.ref _) _) _ _ _)); (fail_if_success (with_reducible show wpAny _ _ (subscriptTail _ _ (Value.ref _) _) _ _ _)); (fail_if_success (with_reducible show wpAny _ _ (eval (Expr.ListComp _ _ _ _) _) _ _ _)); ((first | (k_unfold; (try dsimp only)) | walk1 | (dsimp only; walk1) | (leave1; (try dsimp only))))))
      (rename News _ _ _ _ => lN2)
      (rename Fr _ _ _ _ => lF2)
      refine set_last (news := (D, _) :: (77, o) :: ex) lF2 lN2 (.head (List.forall_mem_cons.mpr ⟨fun h => Nat.lt_irrefl _ (h ▸ hD), fun p hp => hoff p hp _ (.head _)⟩)) ?_
      intro h6 F6 N6
      clear lF2 lN2
      rw [hit, S_snoc] at N6
      (try dsimp only)
      (repeat' ((fail_if_success (with_reducible show wpAny _ _ (call (Value.builtin "len") [Value.ref _]) _ _ _)); (fail_if_success (with_reducible show KswPost _ _ _ _ _ _ _ _ _ _ _ _ _ _)); (fail_if_success (with_reducible show wpAny _ _ (call (Value.ref _) _) _ _ _)); (fail_if_success (with_reducible show wpAny _ _ (call (Value.type "list") _) _ _ _)); (fail_if_success (with_reducible show wpAny _ _ (setItem _ _ _) _ _ _)); (fail_if_success (with_reducible show wpAny _ _ (compareOp CmpOp.NotEq (Value.ref _) _) _ _ _)); (fail_if_success (with_reducible show wpAny _ _ (subscriptTail _ _ (Value.ref _) _) _ _ _)); (fail_if_success (with_reducible show wpAny _ _ (eval (Expr.ListComp _ _ _ _) _) _ _ _)); ((first | (k_unfold; (try dsimp only)) | walk1 | (dsimp only; walk1) | (leave1; (try dsimp only))))))
      (rename News _ _ _ _ => lN)
      (rename Fr _ _ _ _ => lF)
      refine hJ _ _ (ksw_end (σ := BL) ⟨init, last ++ [l[e]], vs, _, n, e + 1, _, o, ex⟩ lF lN (fun p hp => hp) hv (List.forall_mem_singleton.mpr (by with_unfolding_all rfl)) (fun z hz hs => ?_) ⟨hinv.sign he' q34 q44, hTF, hEx⟩ (by dsimp only; omega))
      have hz1 := hz _ (.head _)
      dsimp only at hz1
      simp only [List.contains_cons, List.contains_nil, Bool.or_false, Bool.or_eq_false_iff, beq_eq_false_iff_ne, ne_eq] at hs
      obtain ⟨a1, a2, a3⟩ := hs
      simp [hz1, a1, a2, a3, kstB]
    · -- the end
      (rename News _ _ _ _ => lN)
      (rename Fr _ _ _ _ => lF)
      have he' : e = l.length := by have := hinv.1; omega
      refine item_last (News.isList lN (.head _)) ?_
      (repeat' ((fail_if_success (with_reducible show wpAny _ _ (call (Value.builtin "len") [Value.ref _]) _ _ _)); (fail_if_success (with_reducible show KswPost _ _ _ _ _ _ _ _ _ _ _ _ _ _)); (fail_if_success (with_reducible show wpAny _ _ (call (Value.ref _) _) _ _ _)); (fail_if_success (with_reducible show wpAny _ _ (call (Value.type "list") _) _ _ _)); (fail_if_success (with_reducible show wpAny _ _ (setItem _ _ _) _ _ _)); (fail_if_success (with_reducible show wpAny _ _ (compareOp CmpOp.NotEq (Value.ref _) _) _ _ _)); (fail_if_success (with_reducible show wpAny _ _ (subscriptTail _ _ (Value.ref _) _) _ _ _)); (fail_if_success (with_reducible show wpAny _ _ (eval (Expr.ListComp _ _ _ _) _) _ _ _)); ((first | (k_unfold; (try dsimp only)) | walk1 | (dsimp only; walk1) | (leave1; (try dsimp only))))))
      · -- the last part holds nothing
        (rename (S last == Str.ofString "") = true => hq)
        have hlast : last = [] := S_inj.mp (eq_of_beq hq)
        refine slice_initL (s := ⟨_, _, _, _, _⟩) lF lN (News.isList lN (.head _)) hszv ?_
        intro h6 F6 N6
        clear lF lN
        (try dsimp only)
        (repeat' ((fail_if_success (with_reducible show wpAny _ _ (call (Value.builtin "len") [Value.ref _]) _ _ _)); (fail_if_success (with_reducible show KswPost _ _ _ _ _ _ _ _ _ _ _ _ _ _)); (fail_if_success (with_reducible show wpAny _ _ (call (Value.ref _) _) _ _ _)); (fail_if_success (with_reducible show wpAny _ _ (call (Value.type "list") _) _ _ _)); (fail_if_success (with_reducible show wpAny _ _ (setItem _ _ _) _ _ _)); (fail_if_success (with_reducible show wpAny _ _ (compareOp CmpOp.NotEq (Value.ref _) _) _ _ _)); (fail_if_success (with_reducible show wpAny _ _ (subscriptTail _ _ (Value.ref _) _) _ _ _)); (fail_if_success (with_reducible show wpAny _ _ (eval (Expr.ListComp _ _ _ _) _) _ _ _)); ((first | (k_unfold; (try dsimp only)) | walk1 | (dsimp only; walk1) | (leave1; (try dsimp only))))))
        (rename News _ _ _ _ => lN)
        (rename Fr _ _ _ _ => lF)
        with_unfolding_all refine' listComp_F (K := ItemKind.str) (d := fun a => .str (Txt.strip a)) lF lN (News.isList lN (.head _)) hv.areOf (by rw [List.length_map, sizeLine_eq]; omega) rfl rfl (by decide) rfl (by decide) rfl (fun Q' hQ' => ?_) ?_ ?_ (fun _ => rfl)
        · walk1
          exact hQ'
        · rintro C a v s₂ m₂ E' ha ⟨tv, rfl⟩ F₂ hm
          have hsa : a.length ≤ 1000 := by
            obtain ⟨a, ha', rfl⟩ := List.mem_map.mp ha
            exact sz_S (Nat.le_trans (hp5 a ha') (by omega))
          (first | (k_unfold; (try dsimp only)) | walk1 | (dsimp only; walk1) | (leave1; (try dsimp only)))
          (first | (k_unfold; (try dsimp only)) | walk1 | (dsimp only; walk1) | (leave1; (try dsimp only)))
          refine ldVarK F₂.ns hm ?_
          (repeat ((fail_if_success (with_reducible show _ ∧ Keeps _ _)); ((first | (k_unfold; (try dsimp only)) | walk1 | (dsimp only; walk1) | (leave1; (try dsimp only))))))
          exact ⟨.str _ _, _, _, rfl, fun _ _ e => e⟩
        · intro D2 ys n h' tk' F' N' hne hc
          exact hret (.ref D2) h' tk' (hkept.of_fr F') ⟨⟨D2, ys, n, rfl, fresh77 hkept (N' _ (.head _)).2.2 (fun h => hne _ (.tail _ (.tail _ (.head _))) h.symm), (N' _ (.head _)).1, by rw [hinv.done he', if_pos hlast]; simpa [Function.comp_def, strip_S] using hc.strsOf⟩, _, (N' _ (.tail _ (.tail _ (.tail _ (.head _))))).1, hTF.tab F' N' (fun p hp => .tail _ (.tail _ (.tail _ (.tail _ hp))))⟩
      · (rename (S last == Str.ofString "") = false => hq)
        have hlast : last ≠ [] := fun e => by rw [e] at hq; exact absurd hq (by decide)
        have hv2 : StrsAre (vs ++ [Value.str (S last) tl]) ((init ++ [last]).map S) := by rw [List.map_append]; exact hv.append' (.cons _ _ .nil)
        with_unfolding_all refine' listComp_F (K := ItemKind.str) (d := fun a => .str (Txt.strip a)) lF lN (News.isList lN (.head _)) hv2.areOf (by rw [List.length_map, List.length_append, List.length_singleton, sizeLine_eq]; omega) rfl rfl (by decide) rfl (by decide) rfl (fun Q' hQ' => ?_) ?_ ?_ (fun _ => rfl)
        · walk1
          exact hQ'
        · rintro C a v s₂ m₂ E' ha ⟨tv, rfl⟩ F₂ hm
          have hsa : a.length ≤ 1000 := by
            obtain ⟨a, ha', rfl⟩ := List.mem_map.mp ha
            exact sz_S (by rcases List.mem_append.mp ha' with q | q; exact Nat.le_trans (hp5 a q) (by omega); rw [List.mem_singleton.mp q]; omega)
          (first | (k_unfold; (try dsimp only)) | walk1 | (dsimp only; walk1) | (leave1; (try dsimp only)))
          (first | (k_unfold; (try dsimp only)) | walk1 | (dsimp only; walk1) | (leave1; (try dsimp only)))
          refine ldVarK F₂.ns hm ?_
          (repeat ((fail_if_success (with_reducible show _ ∧ Keeps _ _)); ((first | (k_unfold; (try dsimp only)) | walk1 | (dsimp only; walk1) | (leave1; (try dsimp only))))))
          exact ⟨.str _ _, _, _, rfl, fun _ _ e => e⟩
        · intro D2 ys n h' tk' F' N' hne hc
          exact hret (.ref D2) h' tk' (hkept.of_fr F') ⟨⟨D2, ys, n, rfl, fresh77 hkept (N' _ (.head _)).2.2 (fun h => hne _ (.tail _ (.head _)) h.symm), (N' _ (.head _)).1, by rw [hinv.done he', if_neg hlast]; simpa [Function.comp_def, strip_S] using hc.strsOf⟩, _, (N' _ (.tail _ (.tail _ (.head _)))).1, hTF.tab F' N' (fun p hp => .tail _ (.tail _ (.tail _ hp)))⟩
end Mine
end
section
open PySem PySem.W PyProof.Rows PySem.Calls
namespace Mine
theorem tab_code {h : Heap} {c : Addr} (T : Tab (tabHit c) h) : h.CodeRec (.ref c) lamQual := by
  rcases T with e | ⟨c', e, hc⟩
  · have := congrArg (fun o : Obj => o.data) e
    simp [tabObj] at this
  · have := congrArg (fun o : Obj => o.data) e
    simp [tabObj] at this
    rw [this]; exact hc
theorem TabF.code {g h : Heap} {L : Addr} {m : Str → Option Value} {c : Addr} {ex news : List (Addr × Obj)} (T : TabF g (tabHit c) ex) (F : Fr g L h m) (N : News g L h news) (hs : ∀ p ∈ ex, p ∈ news) : h.CodeRec (.ref c) lamQual := tab_code (T.tab F N hs)
/-- behind a call that may change the table -/
theorem tab_news {g h h' : Heap} {L : Addr} {m : Str → Option Value} {o o' : Obj} {news ex add : List (Addr × Obj)} (k : Kept [77] h h') (F : Fr g L h m) (N : News g L h (news ++ (77, o) :: ex)) (hn : ∀ p ∈ news, p.1 ≠ 77)
    (ha : ∀ p ∈ add, h'.get? p.1 = some p.2 ∧ h.get? p.1 = none) (e : h'.get? 77 = some o') (T : Tab o' h') :
    Fr g L h' m ∧ ∃ ex', TabF g o' ex' ∧ ExOk ex' ∧ News g L h' (add ++ (news ++ (77, o') :: ex')) := by
  have hm : (77, o) ∈ news ++ (77, o) :: ex := List.mem_append_right _ (.head _)
  have F' : Fr g L h' m := kept_fr_led (hid := [(77, o)]) k F N (fun p hp => by rw [List.mem_singleton.mp hp]; exact hm)
  have N1 : News g L h [(77, o)] := fun p hp => by rw [List.mem_singleton.mp hp]; exact N _ hm
  have N2 : News g L h' ((add ++ [(77, o')]) ++ news) := by
    refine news_after (hid := [(77, o)]) k F N1 (fun p hp => N p (List.mem_append_left _ hp)) (fun p hp hm => hn p hp (List.mem_singleton.mp hm)) fun p hp => ?_
    rcases List.mem_append.mp hp with hp | hp
    · exact ⟨(ha p hp).1, .inl (ha p hp).2⟩
    · rw [List.mem_singleton.mp hp]; exact ⟨e, .inr (List.mem_singleton.mpr rfl)⟩
  obtain ⟨ex', T', x', N3⟩ := TabF.ofX T F' N2
  refine ⟨F', ex', T', x', fun p hp => N3 p ?_⟩
  simp only [List.mem_append, List.mem_cons, List.not_mem_nil, or_false] at hp ⊢
  rcases hp with hp | hp | hp | hp
  · exact .inl (.inl (.inl hp))
  · exact .inl (.inr hp)
  · exact .inl (.inl (.inr hp))
  · exact .inr hp
theorem fresh_ne {h : Heap} {a b : Addr} {o : Obj} (e1 : h.get? a = none) (e2 : h.get? b = some o) : a ≠ b := fun e => by rw [e, e2] at e1; cases e1
end Mine
end
section
open PySem PySem.W PyProof.Rows PySem.Calls
namespace Mine
theorem cnt_count (c : Nat) : ∀ l : List Nat, cnt c l = (l.count c : Nat)
  | [] => rfl
  | n :: r => by
    rw [cnt_cons, cnt_count c r, List.count_cons]
    by_cases h : n = c <;> simp [h] <;> omega
theorem count_S (l : List Nat) : Txt.count (S l) (Str.ofString "\n") = (l.count 10 : Nat) := by
  have h := count_cnt (S l) 10
  rw [S_list, cnt_count] at h
  exact h
end Mine
end
section
open PySem PySem.W PyProof.Rows PySem.Calls
namespace Mine
set_option pp.deepTerms false
set_option pp.deepTerms.threshold 8
set_option pp.maxSteps 3000
set_option maxRecDepth 100000 in
set_option maxHeartbeats 8000000 in
theorem alike_told {w : World} {l : List Nat} {t : Tok} {o : Obj} (hl : l.length ≤ 400) (hn : 57344 ∉ l) : ToldP w 122 [.str (S l) t] [(77, o)] 400 4000 (fun h => Tab o h) (fun r h h' => r = .bool true ∧ ∃ o', h'.get? 77 = some o' ∧ Tab o' h') := by
  w_top off
  intro A s R H hT0 hret
  have hk' : (hd.heap_39 w.params).In s.heap → True := fun _ => trivial
  revert hk'
  k_fill
  intro _
  have h77 := H.news _ (.head _)
  ((k_dflt (refine' enter ‹At _ _ _ _ _ _› ?kd ?k6 ?k7 ?k9 ?kB ?c5 ?_ ?c2 ?c3 ?c4; (case kd => decide); (case k6 => k_is); (case k7 => k_is); (case k9 => exact BindsTo.of_eq rfl); (case c5 => decide); (case kB => exact locs rfl); (case c2 => exact rfl); (case c3 => exact rfl); (case c4 => exact rfl))))
  intro A₀ base outer g h₁ L p loose mean mg mb hkept hgs hL F N B X T C
  have hTF := tab_enter hT0 h77 hkept
  have hsz := sz_S (l := l) (k := 1000) (by omega)
  have hlen := S_length l
  (try k_unmd)
  (try k_fold)
  (repeat' ((fail_if_success (with_reducible show wpAny _ _ (call (Value.builtin "len") [Value.ref _]) _ _ _)); (fail_if_success (with_reducible show wpAny _ _ (exec (Stmt.While _ _ _ _) _) _ _ _)); (fail_if_success (with_reducible show KswPost _ _ _ _ _ _ _ _ _ _ _ _ _ _)); (fail_if_success (with_reducible show wpAny _ _ (call (Value.ref _) _) _ _ _)); (fail_if_success (with_reducible show wpAny _ _ (call (Value.type "list") _) _ _ _)); (fail_if_success (with_reducible show wpAny _ _ (compareOp CmpOp.NotEq (Value.str _ _) _) _ _ _)); (fail_if_success (with_reducible show wpAny _ _ (compareOp CmpOp.NotEq (Value.ref _) _) _ _ _)); ((first | (k_unfold; (try dsimp only)) | walk1 | (dsimp only; walk1) | (leave1; (try dsimp only))))))
  (rename News _ _ _ _ => lN)
  (rename Fr _ _ _ _ => lF)
  refine (parse_S (l := l) rfl (by omega)).call (At.of B lF X T C lN (fun _ h => nomatch h) rfl rfl rfl rfl rfl (Nat.le_of_ble_eq_true rfl) (Nat.le_of_ble_eq_true rfl)) trivial ?_
  rintro r h2 tk2 hk2 ⟨pa, vsa, na, rfl, hfra, hgeta, hvsa⟩
  have hne1 : pa ≠ 77 := fresh_ne hfra (lN _ (.head _)).1
  have F2 := hk2.fr0 lF
  have N2 := hk2.news1 lF lN hfra hgeta
  clear lF lN
  (try dsimp only)
  (repeat' ((fail_if_success (with_reducible show wpAny _ _ (call (Value.builtin "len") [Value.ref _]) _ _ _)); (fail_if_success (with_reducible show wpAny _ _ (exec (Stmt.While _ _ _ _) _) _ _ _)); (fail_if_success (with_reducible show KswPost _ _ _ _ _ _ _ _ _ _ _ _ _ _)); (fail_if_success (with_reducible show wpAny _ _ (call (Value.ref _) _) _ _ _)); (fail_if_success (with_reducible show wpAny _ _ (call (Value.type "list") _) _ _ _)); (fail_if_success (with_reducible show wpAny _ _ (compareOp CmpOp.NotEq (Value.str _ _) _) _ _ _)); (fail_if_success (with_reducible show wpAny _ _ (compareOp CmpOp.NotEq (Value.ref _) _) _ _ _)); ((first | (k_unfold; (try dsimp only)) | walk1 | (dsimp only; walk1) | (leave1; (try dsimp only))))))
  (rename News _ _ _ _ => lN)
  (rename Fr _ _ _ _ => lF)
  refine (by_lexers_told (o := o) hl).call (At.of (hid := [(77, o)]) B lF X T C lN (fun q hq => by rw [List.mem_singleton.mp hq]; exact .tail _ (.head _)) rfl rfl rfl rfl rfl (Nat.le_of_ble_eq_true rfl) (Nat.le_of_ble_eq_true rfl)) (hTF.tab lF lN (fun _ h => nomatch h)) ?_
  rintro r h3 tk3 hk3 ⟨⟨pb, vsb, nb, rfl, hfrb, hgetb, hvsb⟩, o3, hg3, hT3⟩
  have hne2 : pb ≠ 77 := fresh_ne hfrb (lN _ (.tail _ (.head _))).1
  obtain ⟨F3, ex3, TF3, x3, N3⟩ := tab_news (news := [(pa, _)]) (add := [(pb, _)]) hk3 lF lN (List.forall_mem_singleton.mpr hne1) (List.forall_mem_singleton.mpr ⟨hgetb, hfrb⟩) hg3 hT3
  clear lF lN
  (try dsimp only)
  (repeat' ((fail_if_success (with_reducible show wpAny _ _ (call (Value.builtin "len") [Value.ref _]) _ _ _)); (fail_if_success (with_reducible show wpAny _ _ (exec (Stmt.While _ _ _ _) _) _ _ _)); (fail_if_success (with_reducible show KswPost _ _ _ _ _ _ _ _ _ _ _ _ _ _)); (fail_if_success (with_reducible show wpAny _ _ (call (Value.ref _) _) _ _ _)); (fail_if_success (with_reducible show wpAny _ _ (call (Value.type "list") _) _ _ _)); (fail_if_success (with_reducible show wpAny _ _ (compareOp CmpOp.NotEq (Value.str _ _) _) _ _ _)); (fail_if_success (with_reducible show wpAny _ _ (compareOp CmpOp.NotEq (Value.ref _) _) _ _ _)); ((first | (k_unfold; (try dsimp only)) | walk1 | (dsimp only; walk1) | (leave1; (try dsimp only))))))
  (rename News _ _ _ _ => lN)
  (rename Fr _ _ _ _ => lF)
  refine ne_same (News.isList lN (.tail _ (.head _))) (News.isList lN (.head _)) hvsa hvsb (Nat.le_of_ble_eq_true rfl) ?_
  (repeat' ((fail_if_success (with_reducible show wpAny _ _ (call (Value.builtin "len") [Value.ref _]) _ _ _)); (fail_if_success (with_reducible show wpAny _ _ (exec (Stmt.While _ _ _ _) _) _ _ _)); (fail_if_success (with_reducible show KswPost _ _ _ _ _ _ _ _ _ _ _ _ _ _)); (fail_if_success (with_reducible show wpAny _ _ (call (Value.ref _) _) _ _ _)); (fail_if_success (with_reducible show wpAny _ _ (call (Value.type "list") _) _ _ _)); (fail_if_success (with_reducible show wpAny _ _ (compareOp CmpOp.NotEq (Value.str _ _) _) _ _ _)); (fail_if_success (with_reducible show wpAny _ _ (compareOp CmpOp.NotEq (Value.ref _) _) _ _ _)); ((first | (k_unfold; (try dsimp only)) | walk1 | (dsimp only; walk1) | (leave1; (try dsimp only))))))
  (rename News _ _ _ _ => lN)
  (rename Fr _ _ _ _ => lF)
  have N4 : News g L h3 ((77, o3) :: ex3) := fun p hp => lN p (.tail _ (.tail _ hp))
  refine list_S (l := l) rfl (by omega) rfl lF N4 ?_
  intro sg h4 tk4 ys n4 F4 N5 hys hlt
  clear lF lN N4
  dsimp only
  (repeat' ((fail_if_success (with_reducible show wpAny _ _ (call (Value.builtin "len") [Value.ref _]) _ _ _)); (fail_if_success (with_reducible show wpAny _ _ (exec (Stmt.While _ _ _ _) _) _ _ _)); (fail_if_success (with_reducible show KswPost _ _ _ _ _ _ _ _ _ _ _ _ _ _)); (fail_if_success (with_reducible show wpAny _ _ (call (Value.ref _) _) _ _ _)); (fail_if_success (with_reducible show wpAny _ _ (call (Value.type "list") _) _ _ _)); (fail_if_success (with_reducible show wpAny _ _ (compareOp CmpOp.NotEq (Value.str _ _) _) _ _ _)); (fail_if_success (with_reducible show wpAny _ _ (compareOp CmpOp.NotEq (Value.ref _) _) _ _ _)); ((first | (k_unfold; (try dsimp only)) | walk1 | (dsimp only; walk1) | (leave1; (try dsimp only))))))
  (rename News _ _ _ _ => lN)
  (rename Fr _ _ _ _ => lF)
  have h7s : @LT.lt Nat _ 77 sg := hlt _ (.head _)
  refine (lexer_told (o := o3)).call (At.of (hid := [(77, o3)]) B lF X T C lN (fun q hq => by rw [List.mem_singleton.mp hq]; exact .tail _ (.head _)) rfl rfl rfl rfl rfl (Nat.le_of_ble_eq_true rfl) (Nat.le_of_ble_eq_true rfl)) ⟨⟨_, (lN _ (.head _)).1⟩, TF3.tab lF lN (fun p hp => .tail _ (.tail _ hp))⟩ ?_
  rintro r h5 tk5 hk5 ⟨a, tl5, rfl, rfl, ok, hp1, hp2, h77', hcode⟩
  obtain ⟨F6, ex6, T6, x6, N6⟩ := made_news (news := [(a.sg, _)]) hk5 lF lN (List.forall_mem_singleton.mpr fun h => Nat.lt_irrefl _ (h ▸ h7s)) hp1 hp2 h77' hcode
  clear lF lN
  have N7 : News g L h5 (lexLed w a (1 + ((l.take 0).count 10 : Nat)) tl5 ys n4 ++ (77, tabHit a.c) :: ex6) := N6
  clear N6
  dsimp only [lexLed, List.cons_append, List.nil_append] at N7
  (try dsimp only)
  (repeat' ((fail_if_success (with_reducible show wpAny _ _ (call (Value.builtin "len") [Value.ref _]) _ _ _)); (fail_if_success (with_reducible show wpAny _ _ (exec (Stmt.While _ _ _ _) _) _ _ _)); (fail_if_success (with_reducible show KswPost _ _ _ _ _ _ _ _ _ _ _ _ _ _)); (fail_if_success (with_reducible show wpAny _ _ (call (Value.ref _) _) _ _ _)); (fail_if_success (with_reducible show wpAny _ _ (call (Value.type "list") _) _ _ _)); (fail_if_success (with_reducible show wpAny _ _ (compareOp CmpOp.NotEq (Value.str _ _) _) _ _ _)); (fail_if_success (with_reducible show wpAny _ _ (compareOp CmpOp.NotEq (Value.ref _) _) _ _ _)); ((first | (k_unfold; (try dsimp only)) | walk1 | (dsimp only; walk1) | (leave1; (try dsimp only))))))
  (rename News _ _ _ _ => lN)
  (rename Fr _ _ _ _ => lF)
  with_unfolding_all refine' ksw_whileJ (σ := Nat × Tok × Tok × List Value × Nat) (fun c => lexLed w a (1 + ((l.take c.1).count 10 : Nat)) c.2.1 c.2.2.2.1 c.2.2.2.2 ++ (77, tabHit a.c) :: ex6) (fun c => [(Str.ofString "place", .int (c.1 : Int) c.2.2.1)]) (fun _ => True) [Str.ofString "due"] (fun c => c.1 ≤ l.length ∧ StrsAre c.2.2.2.1 ((l.drop c.1).map sgn)) (fun c => l.length - c.1) (0, tl5, ?te0, ys, n4) lF lN trivial ?hk0 ⟨Nat.zero_le _, hys⟩ ?turn
  case hk0 => exact List.forall_mem_singleton.mpr (by with_unfolding_all rfl)
  case turn =>
    rintro ⟨k, tl, te, vs, n⟩ J hJ u' h tk _ ⟨hk, hvs⟩ lF' lN'
    clear lF lN
    dsimp only at hk hvs lF' lN'
    dsimp only [lexLed, List.cons_append, List.nil_append] at lN'
    (repeat' ((fail_if_success (with_reducible show wpAny _ _ (call (Value.builtin "len") [Value.ref _]) _ _ _)); (fail_if_success (with_reducible show wpAny _ _ (exec (Stmt.While _ _ _ _) _) _ _ _)); (fail_if_success (with_reducible show KswPost _ _ _ _ _ _ _ _ _ _ _ _ _ _)); (fail_if_success (with_reducible show wpAny _ _ (call (Value.ref _) _) _ _ _)); (fail_if_success (with_reducible show wpAny _ _ (call (Value.type "list") _) _ _ _)); (fail_if_success (with_reducible show wpAny _ _ (compareOp CmpOp.NotEq (Value.str _ _) _) _ _ _)); (fail_if_success (with_reducible show wpAny _ _ (compareOp CmpOp.NotEq (Value.ref _) _) _ _ _)); ((first | (k_unfold; (try dsimp only)) | walk1 | (dsimp only; walk1) | (leave1; (try dsimp only))))))
    · (rename (k : Int) < _ => he)
      (rename News _ _ _ _ => lN)
      (rename Fr _ _ _ _ => lF)
      have he' : k < l.length := by omega
      obtain ⟨hb1, hb2, hb3⟩ := byL_tok he' hn
      have hbt := by_lists_told (w := w) (t := t) (u := te) hl hk
      have hcl : (l.take k).count 10 ≤ l.length := Nat.le_trans List.count_le_length (by simp; omega)
      have hcd : (l.drop k).length ≤ 400 := by simp; omega
      have htt := tok_told (w := w) (a := a) (ln := 1 + ((l.take k).count 10 : Nat)) (tl := tl) (vs := vs) (n := n) ok hvs (by omega) ⟨by omega, by rw [List.length_drop]; have : (l.take k).count 10 ≤ k := Nat.le_trans List.count_le_length (by simp; omega); omega⟩
      rw [hb1] at htt
      obtain ⟨wd, k', hby⟩ : ∃ wd k', byL l k = (wd, k') := ⟨_, _, rfl⟩
      rw [hby] at hbt htt hb1 hb2 hb3
      dsimp only at hbt htt hb1 hb2 hb3
      have hln : (1 + ((l.take k).count 10 : Nat) + ((l.drop k).count 10 : Nat) - ((l.drop k').count 10 : Nat) : Int) = 1 + ((l.take k').count 10 : Nat) := by
        have c1 := congrArg (List.count 10) (List.take_append_drop k l)
        have c2 := congrArg (List.count 10) (List.take_append_drop k' l)
        rw [List.count_append] at c1 c2
        omega
      rw [hln] at htt
      refine hbt.call (At.of B lF X T C lN (fun _ h => nomatch h) rfl rfl rfl rfl rfl (Nat.le_of_ble_eq_true rfl) (Nat.le_of_ble_eq_true rfl)) trivial ?_
      rintro r h8 tk8 hk8 ⟨Ta, t1, t2, n8, rfl, hfr8, hget8⟩
      have F8 := hk8.fr0 lF
      have N8 := hk8.news1 lF lN hfr8 hget8
      clear lF lN
      (try dsimp only)
      (repeat' ((fail_if_success (with_reducible show wpAny _ _ (call (Value.builtin "len") [Value.ref _]) _ _ _)); (fail_if_success (with_reducible show wpAny _ _ (exec (Stmt.While _ _ _ _) _) _ _ _)); (fail_if_success (with_reducible show KswPost _ _ _ _ _ _ _ _ _ _ _ _ _ _)); (fail_if_success (with_reducible show wpAny _ _ (call (Value.ref _) _) _ _ _)); (fail_if_success (with_reducible show wpAny _ _ (call (Value.type "list") _) _ _ _)); (fail_if_success (with_reducible show wpAny _ _ (compareOp CmpOp.NotEq (Value.str _ _) _) _ _ _)); (fail_if_success (with_reducible show wpAny _ _ (compareOp CmpOp.NotEq (Value.ref _) _) _ _ _)); ((first | (k_unfold; (try dsimp only)) | walk1 | (dsimp only; walk1) | (leave1; (try dsimp only))))))
      (rename News _ _ _ _ => lN)
      (rename Fr _ _ _ _ => lF)
      have N9 : News g L _ (lexLed w a (1 + ((l.take k).count 10 : Nat)) tl vs n ++ ([] ++ (77, tabHit a.c) :: ex6)) := fun p hp => lN p (.tail _ hp)
      refine htt.call (At.of (hid := lexLed w a (1 + ((l.take k).count 10 : Nat)) tl vs n) B lF X T C N9 (fun q hq => List.mem_append_left _ hq) rfl rfl rfl rfl rfl (Nat.le_of_ble_eq_true rfl) (Nat.le_of_ble_eq_true rfl)) (T6.code lF N9 (fun p hp => List.mem_append_right _ (.tail _ hp))) ?_
      rintro r h9 tk9 hk9 ⟨⟨t9, rfl⟩, tl9, vs9, n9, hv9, hg9⟩
      obtain ⟨F10, N10⟩ := tok_news (news := []) hk9 lF N9 ok (fun _ h => nomatch h) h7s x6 hg9
      clear lF lN N9
      dsimp only [lexLed, List.cons_append, List.nil_append] at N10
      have hvs9 := sz_vs' hv9
      rw [List.length_drop] at hvs9
      have hszs9 : vs9.length ≤ 1000 := by omega
      (try dsimp only)
      (repeat' ((fail_if_success (with_reducible show wpAny _ _ (call (Value.builtin "len") [Value.ref _]) _ _ _)); (fail_if_success (with_reducible show wpAny _ _ (exec (Stmt.While _ _ _ _) _) _ _ _)); (fail_if_success (with_reducible show KswPost _ _ _ _ _ _ _ _ _ _ _ _ _ _)); (fail_if_success (with_reducible show wpAny _ _ (call (Value.ref _) _) _ _ _)); (fail_if_success (with_reducible show wpAny _ _ (call (Value.type "list") _) _ _ _)); (fail_if_success (with_reducible show wpAny _ _ (compareOp CmpOp.NotEq (Value.str _ _) _) _ _ _)); (fail_if_success (with_reducible show wpAny _ _ (compareOp CmpOp.NotEq (Value.ref _) _) _ _ _)); ((first | (k_unfold; (try dsimp only)) | walk1 | (dsimp only; walk1) | (leave1; (try dsimp only))))))
      refine ne_str ?_
      simp only [bne_self_eq_false]
      (repeat' ((fail_if_success (with_reducible show wpAny _ _ (call (Value.builtin "len") [Value.ref _]) _ _ _)); (fail_if_success (with_reducible show wpAny _ _ (exec (Stmt.While _ _ _ _) _) _ _ _)); (fail_if_success (with_reducible show KswPost _ _ _ _ _ _ _ _ _ _ _ _ _ _)); (fail_if_success (with_reducible show wpAny _ _ (call (Value.ref _) _) _ _ _)); (fail_if_success (with_reducible show wpAny _ _ (call (Value.type "list") _) _ _ _)); (fail_if_success (with_reducible show wpAny _ _ (compareOp CmpOp.NotEq (Value.str _ _) _) _ _ _)); (fail_if_success (with_reducible show wpAny _ _ (compareOp CmpOp.NotEq (Value.ref _) _) _ _ _)); ((first | (k_unfold; (try dsimp only)) | walk1 | (dsimp only; walk1) | (leave1; (try dsimp only))))))
      (rename News _ _ _ _ => lN)
      (rename Fr _ _ _ _ => lF)
      refine len_strsA (News.isList lN (.tail _ (.tail _ (.tail _ (.tail _ (.tail _ (.tail _ (.tail _ (.head _))))))))) hv9 (by rw [List.length_map, List.length_drop]; omega) ?_
      rw [List.length_map, List.length_drop]
      (repeat' ((fail_if_success (with_reducible show wpAny _ _ (call (Value.builtin "len") [Value.ref _]) _ _ _)); (fail_if_success (with_reducible show wpAny _ _ (exec (Stmt.While _ _ _ _) _) _ _ _)); (fail_if_success (with_reducible show KswPost _ _ _ _ _ _ _ _ _ _ _ _ _ _)); (fail_if_success (with_reducible show wpAny _ _ (call (Value.ref _) _) _ _ _)); (fail_if_success (with_reducible show wpAny _ _ (call (Value.type "list") _) _ _ _)); (fail_if_success (with_reducible show wpAny _ _ (compareOp CmpOp.NotEq (Value.str _ _) _) _ _ _)); (fail_if_success (with_reducible show wpAny _ _ (compareOp CmpOp.NotEq (Value.ref _) _) _ _ _)); ((first | (k_unfold; (try dsimp only)) | walk1 | (dsimp only; walk1) | (leave1; (try dsimp only))))))
      · exfalso
        (rename ((_ : Nat) : Int) ≠ _ => hq)
        omega
      · exfalso
        (rename (1 : Int) + _ ≠ _ => hq)
        rw [slice_to hb3, count_S] at hq
        exact hq rfl
      (rename News _ _ _ _ => lN)
      (rename Fr _ _ _ _ => lF)
      with_unfolding_all refine hJ _ _ (ksw_end (σ := Nat × Tok × Tok × List Value × Nat) (k', tl9, _, vs9, n9) lF lN (fun p hp => hp) trivial (List.forall_mem_singleton.mpr rfl) (fun z hz hs => ?_) ⟨hb3, hv9⟩ (by dsimp only; omega))
      have hz1 := hz _ (.head _)
      dsimp only at hz1
      simp only [List.contains_cons, List.contains_nil, Bool.or_false, beq_eq_false_iff_ne, ne_eq] at hs
      simp [hz1, hs, kstB]
    · -- the end
      (rename ¬ ((k : Int) < _) => he)
      (rename News _ _ _ _ => lN)
      (rename Fr _ _ _ _ => lF)
      have he' : k = l.length := by omega
      have hd : l.drop k = [] := by rw [he']; exact List.drop_length
      rw [hd] at hvs
      have hcl : (l.take k).count 10 ≤ l.length := Nat.le_trans List.count_le_length (by simp; omega)
      have htt := tok_told (w := w) (a := a) (ln := 1 + ((l.take k).count 10 : Nat)) (tl := tl) (vs := vs) (n := n) (l := []) ok hvs (by simp) ⟨by omega, by simp; omega⟩
      have N9 : News g L _ (lexLed w a (1 + ((l.take k).count 10 : Nat)) tl vs n ++ ([] ++ (77, tabHit a.c) :: ex6)) := lN
      refine htt.call (At.of (hid := lexLed w a (1 + ((l.take k).count 10 : Nat)) tl vs n) B lF X T C N9 (fun q hq => List.mem_append_left _ hq) rfl rfl rfl rfl rfl (Nat.le_of_ble_eq_true rfl) (Nat.le_of_ble_eq_true rfl)) (T6.code lF N9 (fun p hp => List.mem_append_right _ (.tail _ hp))) ?_
      rintro r h9 tk9 hk9 ⟨⟨t9, rfl⟩, tl9, vs9, n9, hv9, hg9⟩
      obtain ⟨F10, N10⟩ := tok_news (news := []) hk9 lF N9 ok (fun _ h => nomatch h) h7s x6 hg9
      clear lF lN N9
      dsimp only [lexLed, List.cons_append, List.nil_append] at N10
      (try dsimp only)
      (repeat' ((fail_if_success (with_reducible show wpAny _ _ (call (Value.builtin "len") [Value.ref _]) _ _ _)); (fail_if_success (with_reducible show wpAny _ _ (exec (Stmt.While _ _ _ _) _) _ _ _)); (fail_if_success (with_reducible show KswPost _ _ _ _ _ _ _ _ _ _ _ _ _ _)); (fail_if_success (with_reducible show wpAny _ _ (call (Value.ref _) _) _ _ _)); (fail_if_success (with_reducible show wpAny _ _ (call (Value.type "list") _) _ _ _)); (fail_if_success (with_reducible show wpAny _ _ (compareOp CmpOp.NotEq (Value.str _ _) _) _ _ _)); (fail_if_success (with_reducible show wpAny _ _ (compareOp CmpOp.NotEq (Value.ref _) _) _ _ _)); ((first | (k_unfold; (try dsimp only)) | walk1 | (dsimp only; walk1) | (leave1; (try dsimp only))))))
      exact hret _ _ _ (hkept.of_fr F10) ⟨congrArg Value.bool (by decide), _, (N10 _ (.tail _ (.tail _ (.tail _ (.tail _ (.tail _ (.tail _ (.tail _ (.tail _ (.head _)))))))))).1, T6.tab F10 N10 (fun p hp => .tail _ (.tail _ (.tail _ (.tail _ (.tail _ (.tail _ (.tail _ (.tail _ (.tail _ hp)))))))))⟩
end Mine
end
section
open PySem PySem.W PyProof.Rows PySem.Calls
namespace Mine
theorem TabF.ofY {g h : Heap} {L : Addr} {m : Str → Option Value} {c : Addr} {news : List (Addr × Obj)} (hc : h.CodeRec (.ref c) lamQual) (F : Fr g L h m) (N : News g L h news) : ∃ ex, TabF g (tabHit c) ex ∧ ExOk ex ∧ (∀ p ∈ ex, p.1 = c) ∧ News g L h (news ++ ex) := by
  obtain ⟨c', oc, vs, t, hcc, e1, e2, e3⟩ := hc
  cases hcc
  cases q : g.get? c with
  | some o' =>
    have e4 := F.keep _ _ q
    rw [e1] at e4
    cases e4
    exact ⟨[], .inr ⟨c, rfl, .inl ⟨c, oc, vs, t, rfl, q, e2, e3⟩⟩, (fun _ h => nomatch h), (fun _ h => nomatch h), by simpa using N⟩
  | none =>
    refine ⟨[(c, oc)], .inr ⟨c, rfl, .inr ⟨oc, vs, t, .head _, e2, e3⟩⟩, ?_, ?_, fun p hp => ?_⟩
    · intro p hp; rw [List.mem_singleton.mp hp]; exact ⟨vs, t, e2, e3⟩
    · intro p hp; rw [List.mem_singleton.mp hp]
    · rcases List.mem_append.mp hp with hp | hp
      · exact N p hp
      · rw [List.mem_singleton.mp hp]
        refine ⟨e1, fun hL => ?_, q⟩
        obtain ⟨oL, es, ep, e5, e6, -⟩ := F.ns
        dsimp only at hL
        subst hL
        rw [e1] at e5
        cases e5
        rw [e2] at e6
        cases e6
/-- behind the maker of lexers, and where the lambda's code lies -/
theorem made_news2 {w : World} {g h h' : Heap} {L : Addr} {m : Str → Option Value} {a : LexA} {tl : Tok} {o : Obj} {news ex : List (Addr × Obj)} (k : Kept [77] h h') (F : Fr g L h m) (N : News g L h (news ++ (77, o) :: ex)) (hn : ∀ p ∈ news, p.1 ≠ 77)
    (e1 : ∀ p ∈ lexParts w a 1 tl, h'.get? p.1 = some p.2) (e2 : ∀ p ∈ lexParts w a 1 tl, h.get? p.1 = none) (e3 : h'.get? 77 = some (tabHit a.c)) (hc : h'.CodeRec (.ref a.c) lamQual) :
    Fr g L h' m ∧ ∃ ex', TabF g (tabHit a.c) ex' ∧ ExOk ex' ∧ (∀ p ∈ ex', p.1 = a.c) ∧ News g L h' (lexParts w a 1 tl ++ (news ++ (77, tabHit a.c) :: ex')) := by
  obtain ⟨F', ex0, -, -, N0⟩ := made_news k F N hn e1 e2 e3 hc
  have N1 : News g L h' (lexParts w a 1 tl ++ (news ++ [(77, tabHit a.c)])) := fun p hp => N0 p (by
    simp only [List.mem_append, List.mem_cons, List.not_mem_nil, or_false] at hp ⊢
    rcases hp with hp | hp | hp
    · exact .inl hp
    · exact .inr (.inl hp)
    · exact .inr (.inr (.inl hp)))
  obtain ⟨ex', T', x', y', N2⟩ := TabF.ofY hc F' N1
  refine ⟨F', ex', T', x', y', fun p hp => N2 p ?_⟩
  simp only [List.mem_append, List.mem_cons, List.not_mem_nil, or_false] at hp ⊢
  rcases hp with hp | hp | hp | hp
  · exact .inl (.inl hp)
  · exact .inl (.inr (.inl hp))
  · exact .inl (.inr (.inr hp))
  · exact .inr hp
/-- new, or the one that was -/
theorem code_ne {h : Heap} {c b : Addr} {o : Obj} (hf : h.get? c = none ∨ h.get? 77 = some (tabHit c)) (ht : h.get? 77 = some (tabObj #[])) (hb : h.get? b = some o) : c ≠ b := by
  rcases hf with e | e
  · exact fresh_ne e hb
  · rw [ht] at e
    have := congrArg (fun o : Option Obj => o.map (·.data)) e
    simp at this
theorem code_ne2 {h : Heap} {c c0 b : Addr} {o : Obj} (hf : h.get? c = none ∨ h.get? 77 = some (tabHit c)) (ht : h.get? 77 = some (tabHit c0)) (h0 : c0 ≠ b) (hb : h.get? b = some o) : c ≠ b := by
  rcases hf with e | e
  · exact fresh_ne e hb
  · rw [ht] at e
    have := congrArg (fun o : Option Obj => o.map (·.data)) e
    simp at this
    rw [← this]; exact h0
end Mine
end
section
open PySem PySem.W PyProof.Rows PySem.Calls
namespace Mine
set_option pp.deepTerms false
set_option pp.deepTerms.threshold 8
set_option pp.maxSteps 3000
abbrev Good (x : Str) : Prop := x.length ≤ 2 ∧ 57344 ∉ x.cps.toList
theorem good_getD {xs : List Str} {i : Nat} (h : ∀ x ∈ xs, Good x) : Good (xs.getD i Str.empty) := by
  rw [List.getD_eq_getElem?_getD]
  cases q : xs[i]? with
  | none => exact (by decide : Good Str.empty)
  | some x => exact h x (List.mem_of_getElem? q)
theorem strs_get {vs : List Value} {ss : List Str} (h : StrsAre vs ss) : ∀ {i : Nat}, i < ss.length → ∃ x t, vs[i]? = some (.str x t) ∧ x ∈ ss := by
  induction h with
  | nil => exact fun hi => absurd hi (Nat.not_lt_zero _)
  | cons x t _ ih =>
    intro i hi
    cases i with
    | zero => exact ⟨x, t, rfl, .head _⟩
    | succ i =>
      obtain ⟨y, t', e, hm⟩ := ih (i := i) (by simpa using hi)
      exact ⟨y, t', by simpa using e, .tail _ hm⟩
theorem strs_getD {vs : List Value} {ss : List Str} (h : StrsAre vs ss) : ∀ {i : Nat}, i < ss.length → ∃ t, vs[i]? = some (.str (ss.getD i Str.empty) t) := by
  induction h with
  | nil => exact fun hi => absurd hi (Nat.not_lt_zero _)
  | cons x t _ ih =>
    intro i hi
    cases i with
    | zero => exact ⟨t, rfl⟩
    | succ i =>
      obtain ⟨t', e⟩ := ih (i := i) (by simpa using hi)
      exact ⟨t', by simpa using e⟩
theorem item_at {prog : Program} {w : World} {A : Around} {E : Value → Shared → Prop} {s : Shared} {Q : Value → Shared → Prop} {value slice : Expr} {a : Addr} {u : Tok} {vs : List Value} {ss : List Str} {i : Int} {ops : List Value} (hl : s.heap.IsList a vs.toArray) (hv : StrsAre vs ss) (h0 : 0 ≤ i) (h1 : i < (ss.length : Int)) (h2 : ss.length ≤ 1000) (h : ∀ t, Q (.str (ss.getD i.toNat Str.empty) t) s)
    (hs : subscripted slice false (.ref a) (.int i u) = operate ops (getItem (.ref a) (.int i u)) := by with_unfolding_all rfl) :
    wpAny (model prog w) A (subscriptTail value slice (.ref a) (.int i u)) Q E s := by
  obtain ⟨t, e⟩ := strs_getD hv (i := i.toNat) (by omega)
  exact tail_any hl.typeIs slot_list_getitem.lookup (wpAny_getItem_list hl h0 (by omega) (by simpa using e) (h t)) hs
def menu (x : Str) : List Str := [Str.ofString "\"", Str.ofString "\\", Str.ofString ",", Str.ofString " ", Str.ofString "a", Str.ofString "\\\"", Str.ofString "\\\\", Str.ofString " \"", Str.ofString "\" ", Str.ofString "\",", Str.ofString "\n", Str.ofString "\t", Str.ofString "\u000d#", Str.ofString "\\ ", Str.ofString "'\u000c", x]
def pSign (z : Int) : Str :=
  if ((⟨#[(if (z.fdiv 16).fmod 1112064 < 55296 then (z.fdiv 16).fmod 1112064 else (z.fdiv 16).fmod 1112064 + 2048).toNat]⟩ : Str) == Str.ofString "\ue000") = true then Str.ofString "|" else ⟨#[(if (z.fdiv 16).fmod 1112064 < 55296 then (z.fdiv 16).fmod 1112064 else (z.fdiv 16).fmod 1112064 + 2048).toNat]⟩
def pieceS (z : Int) : Str := (menu (pSign z)).getD (z.fmod 16).toNat Str.empty
theorem pSign_1 {z : Int} (h : (z.fdiv 16).fmod 1112064 < 55296) (e : ((⟨#[((z.fdiv 16).fmod 1112064).toNat]⟩ : Str) == Str.ofString "\ue000") = true) : pSign z = Str.ofString "|" := by
  unfold pSign; rw [if_pos h, if_pos e]
theorem pSign_2 {z : Int} (h : (z.fdiv 16).fmod 1112064 < 55296) (e : ((⟨#[((z.fdiv 16).fmod 1112064).toNat]⟩ : Str) == Str.ofString "\ue000") = false) : pSign z = ⟨#[((z.fdiv 16).fmod 1112064).toNat]⟩ := by
  unfold pSign; rw [if_pos h, if_neg (by rw [e]; decide)]
theorem pSign_3 {z : Int} (h : ¬ (z.fdiv 16).fmod 1112064 < 55296) (e : ((⟨#[((z.fdiv 16).fmod 1112064 + 2048).toNat]⟩ : Str) == Str.ofString "\ue000") = true) : pSign z = Str.ofString "|" := by
  unfold pSign; rw [if_neg h, if_pos e]
theorem pSign_4 {z : Int} (h : ¬ (z.fdiv 16).fmod 1112064 < 55296) (e : ((⟨#[((z.fdiv 16).fmod 1112064 + 2048).toNat]⟩ : Str) == Str.ofString "\ue000") = false) : pSign z = ⟨#[((z.fdiv 16).fmod 1112064 + 2048).toNat]⟩ := by
  unfold pSign; rw [if_neg h, if_neg (by rw [e]; decide)]
theorem good_one {n : Nat} (h : n ≠ 57344) : Good ⟨#[n]⟩ := ⟨Nat.le_succ 1, by simp; exact fun e => h e.symm⟩
theorem good_all {x : Str} (h : Good x) : ∀ y ∈ [Str.ofString "\"", Str.ofString "\\", Str.ofString ",", Str.ofString " ", Str.ofString "a", Str.ofString "\\\"", Str.ofString "\\\\", Str.ofString " \"", Str.ofString "\" ", Str.ofString "\",", Str.ofString "\n", Str.ofString "\t", Str.ofString "\u000d#", Str.ofString "\\ ", Str.ofString "'\u000c", x], Good y := by
  have h1 : ∀ y ∈ [Str.ofString "\"", Str.ofString "\\", Str.ofString ",", Str.ofString " ", Str.ofString "a", Str.ofString "\\\"", Str.ofString "\\\\", Str.ofString " \"", Str.ofString "\" ", Str.ofString "\",", Str.ofString "\n", Str.ofString "\t", Str.ofString "\u000d#", Str.ofString "\\ ", Str.ofString "'\u000c"], Good y := by decide
  intro y hy
  rcases List.mem_append.mp (show y ∈ [Str.ofString "\"", Str.ofString "\\", Str.ofString ",", Str.ofString " ", Str.ofString "a", Str.ofString "\\\"", Str.ofString "\\\\", Str.ofString " \"", Str.ofString "\" ", Str.ofString "\",", Str.ofString "\n", Str.ofString "\t", Str.ofString "\u000d#", Str.ofString "\\ ", Str.ofString "'\u000c"] ++ [x] from hy) with hy | hy
  · exact h1 y hy
  · rw [List.mem_singleton.mp hy]; exact h
theorem pSign_good (z : Int) : Good (pSign z) := by
  by_cases h : (z.fdiv 16).fmod 1112064 < 55296
  · cases e : ((⟨#[((z.fdiv 16).fmod 1112064).toNat]⟩ : Str) == Str.ofString "\ue000")
    · rw [pSign_2 h e]; exact good_one (sgnF (k := 57344) (x := Str.ofString "\ue000") (by decide) e)
    · rw [pSign_1 h e]; decide
  · cases e : ((⟨#[((z.fdiv 16).fmod 1112064 + 2048).toNat]⟩ : Str) == Str.ofString "\ue000")
    · rw [pSign_4 h e]; exact good_one (sgnF (k := 57344) (x := Str.ofString "\ue000") (by decide) e)
    · rw [pSign_3 h e]; decide
theorem piece_good (z : Int) : Good (pieceS z) := good_getD (good_all (pSign_good z))
set_option maxRecDepth 100000 in
set_option maxHeartbeats 8000000 in
theorem piece_told {w : World} {z : Int} {t : Tok} : Told w 75 [.int z t] [] 800 8000 (fun r h h' => ∃ t', r = .str (pieceS z) t') := by
  w_top off
  intro A s R H _ hret
  have hk' : (hd.heap_39 w.params).In s.heap → True := fun _ => trivial
  revert hk'
  k_fill
  intro _
  ((k_dflt (refine' enter ‹At _ _ _ _ _ _› ?kd ?k6 ?k7 ?k9 ?kB ?c5 ?_ ?c2 ?c3 ?c4; (case kd => decide); (case k6 => k_is); (case k7 => k_is); (case k9 => exact BindsTo.of_eq rfl); (case c5 => decide); (case kB => exact locs rfl); (case c2 => exact rfl); (case c3 => exact rfl); (case c4 => exact rfl))))
  intro A₀ base outer g h₁ L p loose mean mg mb hkept hgs hL F N B X T C
  (try k_unmd)
  (try k_fold)
  repeat' ((fail_if_success (with_reducible show R _ _)); (fail_if_success (with_reducible show wpAny _ _ (subscriptTail _ _ (Value.ref _) _) _ _ _)); ((first | (k_unfold; (try dsimp only)) | walk1 | (dsimp only; walk1) | (leave1; (try dsimp only)))))
  all_goals (try dsimp only)
  all_goals (rename Fr _ _ _ _ => lF)
  · (rename News _ _ _ _ => lN)
    refine item_at (ss := menu (pSign z)) (News.isList lN (.head _)) (by rw [pSign_1 (by assumption) (by assumption)]; exact (.cons _ _ (.cons _ _ (.cons _ _ (.cons _ _ (.cons _ _ (.cons _ _ (.cons _ _ (.cons _ _ (.cons _ _ (.cons _ _ (.cons _ _ (.cons _ _ (.cons _ _ (.cons _ _ (.cons _ _ (.cons _ _ .nil))))))))))))))))) (Int.fmod_nonneg_of_pos _ (by decide)) (Int.fmod_lt_of_pos _ (by decide)) (Nat.le_of_ble_eq_true rfl) ?_
    intro tx
    exact hret _ _ _ (hkept.of_fr lF) ⟨_, rfl⟩
  · (rename News _ _ _ _ => lN)
    refine item_at (ss := menu (pSign z)) (News.isList lN (.head _)) (by rw [pSign_2 (by assumption) (by assumption)]; exact (.cons _ _ (.cons _ _ (.cons _ _ (.cons _ _ (.cons _ _ (.cons _ _ (.cons _ _ (.cons _ _ (.cons _ _ (.cons _ _ (.cons _ _ (.cons _ _ (.cons _ _ (.cons _ _ (.cons _ _ (.cons _ _ .nil))))))))))))))))) (Int.fmod_nonneg_of_pos _ (by decide)) (Int.fmod_lt_of_pos _ (by decide)) (Nat.le_of_ble_eq_true rfl) ?_
    intro tx
    exact hret _ _ _ (hkept.of_fr lF) ⟨_, rfl⟩
  · (rename News _ _ _ _ => lN)
    refine item_at (ss := menu (pSign z)) (News.isList lN (.head _)) (by rw [pSign_3 (by assumption) (by assumption)]; exact (.cons _ _ (.cons _ _ (.cons _ _ (.cons _ _ (.cons _ _ (.cons _ _ (.cons _ _ (.cons _ _ (.cons _ _ (.cons _ _ (.cons _ _ (.cons _ _ (.cons _ _ (.cons _ _ (.cons _ _ (.cons _ _ .nil))))))))))))))))) (Int.fmod_nonneg_of_pos _ (by decide)) (Int.fmod_lt_of_pos _ (by decide)) (Nat.le_of_ble_eq_true rfl) ?_
    intro tx
    exact hret _ _ _ (hkept.of_fr lF) ⟨_, rfl⟩
  · (rename News _ _ _ _ => lN)
    refine item_at (ss := menu (pSign z)) (News.isList lN (.head _)) (by rw [pSign_4 (by assumption) (by assumption)]; exact (.cons _ _ (.cons _ _ (.cons _ _ (.cons _ _ (.cons _ _ (.cons _ _ (.cons _ _ (.cons _ _ (.cons _ _ (.cons _ _ (.cons _ _ (.cons _ _ (.cons _ _ (.cons _ _ (.cons _ _ (.cons _ _ .nil))))))))))))))))) (Int.fmod_nonneg_of_pos _ (by decide)) (Int.fmod_lt_of_pos _ (by decide)) (Nat.le_of_ble_eq_true rfl) ?_
    intro tx
    exact hret _ _ _ (hkept.of_fr lF) ⟨_, rfl⟩
end Mine
end
section
open PySem PySem.W PyProof.Rows PySem.Calls
namespace Mine
theorem join_S : ∀ ls : List Str, Txt.join (Str.ofString "") ls = S (ls.flatMap fun x => x.cps.toList) := by
  intro ls
  unfold Txt.join
  rw [StrLaws.glued_eq_join]
  show Str.join ⟨#[]⟩ ls = _
  induction ls with
  | nil => rfl
  | cons x r ih => rw [PyProof.Rows.join_nil_cons, ih, List.flatMap_cons, ← S_append, S_of]
def drawL (ns : List Int) : List Nat := ns.flatMap fun z => (pieceS z).cps.toList
theorem draw_join (ns : List Int) : Txt.join (Str.ofString "") (ns.map pieceS) = S (drawL ns) := by
  rw [join_S, List.flatMap_map]; rfl
theorem draw_len (ns : List Int) : (drawL ns).length ≤ 2 * ns.length := by
  induction ns with
  | nil => exact Nat.le_refl _
  | cons z r ih =>
    have := (piece_good z).1
    have e : (pieceS z).cps.toList.length = (pieceS z).length := by simp [Str.length]
    unfold drawL at ih ⊢
    rw [List.flatMap_cons, List.length_append, List.length_cons]
    omega
theorem draw_free (ns : List Int) : 57344 ∉ drawL ns := by
  intro h
  obtain ⟨z, -, hz⟩ := List.mem_flatMap.mp h
  exact (piece_good z).2 hz
theorem draw_sum (ns : List Int) : ((ns.map pieceS).map (·.length)).sum ≤ 2 * ns.length := by
  induction ns with
  | nil => exact Nat.le_refl _
  | cons z r ih =>
    have := (piece_good z).1
    simp only [List.map_cons, List.sum_cons, List.length_cons]
    omega
theorem every_join (l : List Nat) : Txt.join (Str.ofString "") (l.map fun c => Str.ofString "\\" ++ sgn c) = S (everyB l) := by
  rw [join_S, List.flatMap_map]
  rfl
theorem every_sum (l : List Nat) : ((l.map fun c => Str.ofString "\\" ++ sgn c).map (·.length)).sum ≤ 2 * l.length := by
  induction l with
  | nil => exact Nat.le_refl _
  | cons z r ih =>
    simp only [List.map_cons, List.sum_cons, List.length_cons]
    have : (Str.ofString "\\" ++ sgn z).length = 2 := rfl
    omega
end Mine
end
section
open PySem PySem.W PyProof.Rows PySem.Calls
namespace Mine
/-- a sign and what is made of it -/
def SignTo (f : Nat → Str) (v y : Value) : Prop := ∃ c u, v = Value.str ⟨#[c]⟩ u ∧ Carried y (.str (f c))
theorem paired_signs {f : Nat → Str} {vs ys : List Value} (h : Paired (SignTo f) vs ys) : ∀ {l : List Nat}, vs.length = l.length → (∀ (j : Nat) (v : Value), vs[j]? = some v → ∃ (c : Nat) (u : Tok), l[j]? = some c ∧ v = Value.str ⟨#[c]⟩ u) → StrsAre ys (l.map f) := by
  induction h with
  | nil =>
    intro l hl _
    rw [List.length_eq_zero_iff.mp hl.symm]; exact .nil
  | cons hf _ ih =>
    intro l hl hg
    cases l with
    | nil => cases hl
    | cons k r =>
      obtain ⟨c, u, e1, hc⟩ := hf
      obtain ⟨c2, u2, e2, e3⟩ := hg 0 _ rfl
      have e4 : k = c2 := Option.some.inj e2
      subst e4
      rw [e1] at e3
      have e5 : c = k := by
        have e6 : (⟨#[c]⟩ : Str) = ⟨#[k]⟩ := by injection e3
        simpa using congrArg (fun z : Str => z.cps.toList) e6
      subst e5
      cases hc
      exact .cons _ _ (ih (by simpa using hl) fun j v e => by simpa using hg (j + 1) v (by simpa using e))
section
variable {prog : Program} {w : World} {A : Around} {E : Value → Shared → Prop} {s : Shared} {h₀ : Heap} {L : Addr} {m : Str → Option Value} {news : List (Addr × Obj)} {env : Env}
/-- a list comprehension over a text's signs -/
theorem listComp_signs {elt iter : Expr} {x : Str} {px : Pos} {scope : Scope} {pos : Pos} {Q : Value → Shared → Prop} {l : List Nat} {t : Tok} {f : Nat → Str} (F : Fr h₀ L s.heap m) (N : News h₀ L s.heap news) (hl : l.length ≤ 1000)
    (hh : A.handled = none) (hfree : ∀ y ∈ scope.names, y.2 ≠ .free) (hcell : ∀ y ∈ scope.names, y.2 ≠ .cell) (hkind : scope.kind = .function)
    (hnames : ∀ y ∈ scope.names, y.2 = .local → scope.names.lookup y.1 = some .local) (hx : scope.names.lookup x = some .local)
    (hi : ∀ Q' : Value → Shared → Prop, Q' (.str (S l) t) s → wpAny (model prog w) A (eval iter env) Q' E s)
    (helt : ∀ C c u s₂ m₂ E', s₂.heap.Ns C m₂ → m₂ x = some (.str ⟨#[c]⟩ u) → wpAny (model prog w) A (eval elt (compEnv scope C env)) (fun y s₃ => Carried y (.str (f c)) ∧ Keeps s₂ s₃) E' s₂)
    (hQ : ∀ D (ys : List Value) n h' tk, Fr h₀ L h' m → News h₀ L h' ((D, listOf ys.toArray n) :: news) → StrsAre ys (l.map f) → Q (.ref D) { s with heap := h', toks := tk })
    (hs : ∀ x, foldedSetIterable iter env x = pure x) :
    wpAny (model prog w) A (eval (.ListComp elt [⟨.Name x px, iter, [], 0⟩] scope pos) env) Q E s := by
  refine wpAny_ListComp_walk (fun _ => true) (SignTo f) hfree hcell hkind hnames hx (hi _ (wpAny_pyIter_str fun o St W hst => ?_)) hs
  have up : ∀ h' : Heap, (∀ b o', b ∉ [s.heap.objs.size] → (s.heap.push o).get? b = some o' → h'.get? b = some o') → ∀ b o', s.heap.get? b = some o' → h'.get? b = some o' := fun h' hk b o' e =>
    hk b o' (fun hb => absurd (Heap.lt_size e) (List.mem_singleton.mp hb ▸ Nat.lt_irrefl _)) (Heap.get?_push_of_some _ e)
  have hsz : (S l).cps.size = l.length := by simp [S]
  refine ⟨_, _, _, _, _, St, rfl, W A hh, by rw [hsz, sizeLine_eq]; omega, hst, ?_, ⟨?_, ?_⟩, ?_⟩
  · intro b hb
    rw [List.mem_singleton.mp hb]
    show _ < (s.heap.push o).objs.size
    rw [Heap.size_push]; exact Nat.lt_succ_self _
  · intro C i v s₃ m₃ E' _ _ _ _ _
    exact wpAny_pure ⟨rfl, s₃.heap, s₃.toks, rfl, fun _ _ e => e⟩
  · intro C i v s₃ m₃ E' hP _ hn hm _ _
    obtain ⟨c, u, _, rfl⟩ := hP
    exact wpAny_mono (helt C c u s₃ m₃ E' hn hm) (fun y s₄ q => ⟨⟨c, u, rfl, q.1⟩, q.2⟩) fun _ _ e => e
  · intro D h' tk ys vs hnew hlD hplD hlen hP hF hk
    have keep := up h' hk
    rw [List.filter_eq_self.mpr (fun _ _ => rfl)] at hF
    have hn0 : h₀.get? D = none := by
      cases e : h₀.get? D with
      | none => rfl
      | some o' => rw [Heap.get?_push_of_some _ (F.keep _ _ e)] at hnew; cases hnew
    have F' := F.keeps keep
    have N' := N.grown keep
    have P : NewPlain h' news D ys.toList.toArray := ⟨by rw [Array.toArray_toList]; exact hplD, fun p hp e => by rw [← e, Heap.get?_push_of_some _ (N p hp).1] at hnew; cases hnew⟩
    obtain ⟨n, N2⟩ := made_enters P F' N' hn0
    refine hQ D ys.toList n h' tk F' N2 (paired_signs hF (by rw [hlen, hsz]) fun j v e => ?_)
    obtain ⟨c, u, e1, e2⟩ := hP j v e
    exact ⟨c, u, by simpa [S] using e1, e2⟩
end
end Mine
end
section
open PySem PySem.W PyProof.Rows PySem.Calls
namespace Mine
set_option pp.deepTerms false
set_option pp.deepTerms.threshold 8
set_option pp.maxSteps 3000
def NextMid (Mid : Shared → Prop) (f : Flow) (s' : Shared) : Prop := f = .next ∧ Mid s'
theorem execs_mid {M : Model} {A : Around} {E : Value → Shared → Prop} {s : Shared} {env : Env} {st : Stmt} {rest : List Stmt} {Q : Flow → Shared → Prop} (Mid : Shared → Prop)
    (h1 : wpAny M A (exec st env) (NextMid Mid) E s) (h2 : ∀ s', Mid s' → wpAny M A (execs rest env) Q E s') : wpAny M A (execs (st :: rest) env) Q E s :=
  wpAny_execs_cons (wpAny_mono h1 (fun f s' ⟨e, m⟩ => by subst e; exact h2 s' m) fun _ _ x => x)
/-- behind the script's numbers -/
def Mid1 (s1 : Shared) (G : Heap) (L : Addr) (s' : Shared) : Prop :=
  ∃ (h : Heap) (tk : Nat) (m : Str → Option Value) (P : Addr) (vs : List Value) (n0 : Nat) (ns : List Int), s' = ⟨h, s1.gens, s1.drawn, tk, s1.os⟩ ∧ Fr G L h (fun y => if y = Str.ofString "numbers" then some (.ref P) else m y) ∧ News G L h [(P, listOf (List.toArray vs) n0), (77, tabObj #[])] ∧ IntsAre vs ns ∧ ns.length ≤ 14
/-- behind the text D -/
def Mid2 (s1 : Shared) (G : Heap) (L : Addr) (s' : Shared) : Prop :=
  ∃ (h : Heap) (tk : Nat) (m : Str → Option Value) (d : List Nat) (td : Tok), s' = ⟨h, s1.gens, s1.drawn, tk, s1.os⟩ ∧ Fr G L h (fun y => if y = Str.ofString "drawn" then some (.str (S d) td) else m y) ∧ News G L h [(77, tabObj #[])] ∧ d.length ≤ 28 ∧ 57344 ∉ d
/-- behind the text as it is written once -/
def Mid3 (d : List Nat) (s1 : Shared) (G : Heap) (L : Addr) (s' : Shared) : Prop :=
  ∃ (h : Heap) (tk : Nat) (m : Str → Option Value) (td t1 : Tok), s' = ⟨h, s1.gens, s1.drawn, tk, s1.os⟩ ∧ Fr G L h (fun y => if y = Str.ofString "once" then some (.str (S (34 :: (onceB d ++ [34]))) t1) else if y = Str.ofString "drawn" then some (.str (S d) td) else m y) ∧ News G L h [(77, tabObj #[])]
/-- behind the text with a backslash ahead of each sign -/
def Mid4 (d : List Nat) (s1 : Shared) (G : Heap) (L : Addr) (s' : Shared) : Prop :=
  ∃ (h : Heap) (tk : Nat) (m : Str → Option Value) (td t1 t2 : Tok), s' = ⟨h, s1.gens, s1.drawn, tk, s1.os⟩ ∧ Fr G L h (fun y => if y = Str.ofString "every" then some (.str (S (everyB d)) t2) else if y = Str.ofString "once" then some (.str (S (34 :: (onceB d ++ [34]))) t1) else if y = Str.ofString "drawn" then some (.str (S d) td) else m y) ∧ News G L h [(77, tabObj #[])]
theorem fr3 {G h : Heap} {L : Addr} {m : Str → Option Value} {v1 v2 v3 : Value} (F : Fr G L h m) (h1 : m (Str.ofString "every") = some v1) (h2 : m (Str.ofString "once") = some v2) (h3 : m (Str.ofString "drawn") = some v3) :
    Fr G L h (fun y => if y = Str.ofString "every" then some v1 else if y = Str.ofString "once" then some v2 else if y = Str.ofString "drawn" then some v3 else m y) := by
  refine Fr.congr F fun y => ?_
  by_cases e1 : y = Str.ofString "every"
  · rw [if_pos e1, e1, h1]
  · rw [if_neg e1]
    by_cases e2 : y = Str.ofString "once"
    · rw [if_pos e2, e2, h2]
    · rw [if_neg e2]
      by_cases e3 : y = Str.ofString "drawn"
      · rw [if_pos e3, e3, h3]
      · rw [if_neg e3]
theorem fr1 {G h : Heap} {L : Addr} {m : Str → Option Value} {v : Value} (F : Fr G L h m) (h1 : m (Str.ofString "drawn") = some v) : Fr G L h (fun y => if y = Str.ofString "drawn" then some v else m y) := by
  refine Fr.congr F fun y => ?_
  by_cases e1 : y = Str.ofString "drawn"
  · rw [if_pos e1, e1, h1]
  · rw [if_neg e1]
theorem tab_grown {h : Heap} {o : Obj} (e : h.get? 77 = some o) (T : Tab o h) : GrownAt 77 h := by
  rcases T with rfl | ⟨c, rfl, -⟩
  · exact ⟨_, e⟩
  · exact ⟨_, e⟩
/-- behind the words -/
def Mid5 (d : List Nat) (s1 : Shared) (G : Heap) (L : Addr) (s' : Shared) : Prop :=
  ∃ (h : Heap) (tk : Nat) (m : Str → Option Value) (td : Tok) (o : Obj) (ex : List (Addr × Obj)), s' = ⟨h, s1.gens, s1.drawn, tk, s1.os⟩ ∧ Fr G L h (fun y => if y = Str.ofString "drawn" then some (.str (S d) td) else m y) ∧ TabF G o ex ∧ ExOk ex ∧ News G L h ((77, o) :: ex)
set_option maxRecDepth 100000 in
set_option maxHeartbeats 8000000 in
theorem holds : PySem.Challenge.rw_pk0046_01.Holds := by
  w_top off
  refine hd ?_
  k_go0
  all_goals (try k_unmd)
  all_goals (try k_fold)
  (rename Shared => s1)
  (rename World => w)
  (rename Below _ _ _ _ => B)
  (rename (hd.heap_39 _).In _ => X)
  (rename Top _ _ _ _ _ (ghostOf _ _) => T)
  have C := codeHd
  dsimp only at C
  refine execs_mid (Mid1 s1 (ghostOf s1.heap [(81, 77)]) s1.heap.objs.size) ?first ?rest
  case first =>
    (repeat' ((fail_if_success (with_reducible show wpAny _ _ (exec (Stmt.While _ _ _ _) _) _ _ _)); (fail_if_success (with_reducible show KswPost _ _ _ _ _ _ _ _ _ _ _ _ _ _)); (fail_if_success (with_reducible show wpAny _ _ (call (Value.ref _) _) _ _ _)); (fail_if_success (with_reducible show wpAny _ _ (call (Value.type "list") _) _ _ _)); (fail_if_success (with_reducible show wpAny _ _ (eval (Expr.ListComp _ _ _ _) _) _ _ _)); (fail_if_success (with_reducible show wpAny _ _ (call (Value.builtin "str.join") _) _ _ _)); (fail_if_success (with_reducible show wpAny _ _ (call (Value.builtin "str.replace") _) _ _ _)); (fail_if_success (with_reducible show NextMid _ _ _)); ((first | (k_unfold; (try dsimp only)) | walk1 | (dsimp only; walk1) | (leave1; (try dsimp only))))))
    · (rename News _ _ _ _ => lN)
      (rename Fr _ _ _ _ => lF)
      exact ⟨rfl, _, _, _, _, _, _, [7, 5, 2, 9, 4, 13, 0, 10], rfl, lF, List.forall_mem_cons.mpr ⟨lN _ (.head _), List.forall_mem_cons.mpr ⟨lN _ (.tail _ (.tail _ (.head _))), List.forall_mem_nil _⟩⟩, (.cons _ _ (.cons _ _ (.cons _ _ (.cons _ _ (.cons _ _ (.cons _ _ (.cons _ _ (.cons _ _ .nil)))))))), by decide⟩
    · (rename News _ _ _ _ => lN)
      (rename Fr _ _ _ _ => lF)
      (rename IntsAre _ (List.take 14 _) => hns)
      exact ⟨rfl, _, _, _, _, _, _, _, rfl, lF, List.forall_mem_cons.mpr ⟨lN _ (.head _), List.forall_mem_cons.mpr ⟨lN _ (.tail _ (.tail _ (.head _))), List.forall_mem_nil _⟩⟩, hns, by rw [List.length_take]; omega⟩
  case rest =>
    rintro s' ⟨h, tk, m, P, vs, n0, ns, rfl, lF, lN, hns, hlen⟩
    refine execs_mid (Mid2 s1 (ghostOf s1.heap [(81, 77)]) s1.heap.objs.size) ?first2 ?rest2
    case first2 =>
      (repeat' ((fail_if_success (with_reducible show wpAny _ _ (exec (Stmt.While _ _ _ _) _) _ _ _)); (fail_if_success (with_reducible show KswPost _ _ _ _ _ _ _ _ _ _ _ _ _ _)); (fail_if_success (with_reducible show wpAny _ _ (call (Value.ref _) _) _ _ _)); (fail_if_success (with_reducible show wpAny _ _ (call (Value.type "list") _) _ _ _)); (fail_if_success (with_reducible show wpAny _ _ (eval (Expr.ListComp _ _ _ _) _) _ _ _)); (fail_if_success (with_reducible show wpAny _ _ (call (Value.builtin "str.join") _) _ _ _)); (fail_if_success (with_reducible show wpAny _ _ (call (Value.builtin "str.replace") _) _ _ _)); (fail_if_success (with_reducible show NextMid _ _ _)); ((first | (k_unfold; (try dsimp only)) | walk1 | (dsimp only; walk1) | (leave1; (try dsimp only))))))
      have X2 : (hd.heap_39 w.params).In h := X.keeps lF.keep
      have T2 := T.keeps lF.keep
      with_unfolding_all refine' listComp_F (K := ItemKind.int) (d := fun z => .str (pieceS z)) lF lN (News.isList lN (.head _)) hns.areOf (by rw [sizeLine_eq]; omega) rfl rfl (by decide) rfl (by decide) rfl (fun Q' hQ' => ?_) ?_ ?_ (fun _ => rfl)
      · walk1
        exact hQ'
      · rintro C2 z v s₂ m₂ E' ha ⟨tv, rfl⟩ F₂ hm
        (repeat' ((fail_if_success (with_reducible show wpAny _ _ (exec (Stmt.While _ _ _ _) _) _ _ _)); (fail_if_success (with_reducible show KswPost _ _ _ _ _ _ _ _ _ _ _ _ _ _)); (fail_if_success (with_reducible show wpAny _ _ (call (Value.ref _) _) _ _ _)); (fail_if_success (with_reducible show wpAny _ _ (call (Value.type "list") _) _ _ _)); (fail_if_success (with_reducible show wpAny _ _ (eval (Expr.ListComp _ _ _ _) _) _ _ _)); (fail_if_success (with_reducible show wpAny _ _ (call (Value.builtin "str.join") _) _ _ _)); (fail_if_success (with_reducible show wpAny _ _ (call (Value.builtin "str.replace") _) _ _ _)); (fail_if_success (with_reducible show NextMid _ _ _)); ((first | (k_unfold; (try dsimp only)) | walk1 | (dsimp only; walk1) | (leave1; (try dsimp only))))))
        refine ldVarK F₂.ns hm ?_
        (repeat' ((fail_if_success (with_reducible show wpAny _ _ (exec (Stmt.While _ _ _ _) _) _ _ _)); (fail_if_success (with_reducible show KswPost _ _ _ _ _ _ _ _ _ _ _ _ _ _)); (fail_if_success (with_reducible show wpAny _ _ (call (Value.ref _) _) _ _ _)); (fail_if_success (with_reducible show wpAny _ _ (call (Value.type "list") _) _ _ _)); (fail_if_success (with_reducible show wpAny _ _ (eval (Expr.ListComp _ _ _ _) _) _ _ _)); (fail_if_success (with_reducible show wpAny _ _ (call (Value.builtin "str.join") _) _ _ _)); (fail_if_success (with_reducible show wpAny _ _ (call (Value.builtin "str.replace") _) _ _ _)); (fail_if_success (with_reducible show NextMid _ _ _)); ((first | (k_unfold; (try dsimp only)) | walk1 | (dsimp only; walk1) | (leave1; (try dsimp only))))))
        have F3 := lF.keeps F₂.keep
        have N3 : News (ghostOf s1.heap [(81, 77)]) s1.heap.objs.size s₂.heap [] := fun _ h => nomatch h
        refine (piece_told (w := w) (z := z) (t := tv)).call (At.of B F3 X T C N3 (fun _ h => nomatch h) rfl rfl rfl rfl rfl (Nat.le_of_ble_eq_true rfl) (Nat.le_of_ble_eq_true rfl)) trivial ?_
        rintro r h5 tk5 hk5 ⟨t5, rfl⟩
        exact ⟨.str _ _, _, _, rfl, fun b o e => hk5 b o e fun h => nomatch h⟩
      · intro D ys n h' tk' F' N' hne hc
        have hsys := hc.strsOf
        (repeat' ((fail_if_success (with_reducible show wpAny _ _ (exec (Stmt.While _ _ _ _) _) _ _ _)); (fail_if_success (with_reducible show KswPost _ _ _ _ _ _ _ _ _ _ _ _ _ _)); (fail_if_success (with_reducible show wpAny _ _ (call (Value.ref _) _) _ _ _)); (fail_if_success (with_reducible show wpAny _ _ (call (Value.type "list") _) _ _ _)); (fail_if_success (with_reducible show wpAny _ _ (eval (Expr.ListComp _ _ _ _) _) _ _ _)); (fail_if_success (with_reducible show wpAny _ _ (call (Value.builtin "str.join") _) _ _ _)); (fail_if_success (with_reducible show wpAny _ _ (call (Value.builtin "str.replace") _) _ _ _)); (fail_if_success (with_reducible show NextMid _ _ _)); ((first | (k_unfold; (try dsimp only)) | walk1 | (dsimp only; walk1) | (leave1; (try dsimp only))))))
        refine join_list (News.isList N' (.head _)) hsys (by have := draw_sum ns; simp only [List.length_map]; show _ + _ * 0 ≤ _; omega) fun t' k => ?_
        rw [draw_join]
        have hdl := draw_len ns
        have hszd := sz_S (l := drawL ns) (k := 1000) (by omega)
        (repeat' ((fail_if_success (with_reducible show wpAny _ _ (exec (Stmt.While _ _ _ _) _) _ _ _)); (fail_if_success (with_reducible show KswPost _ _ _ _ _ _ _ _ _ _ _ _ _ _)); (fail_if_success (with_reducible show wpAny _ _ (call (Value.ref _) _) _ _ _)); (fail_if_success (with_reducible show wpAny _ _ (call (Value.type "list") _) _ _ _)); (fail_if_success (with_reducible show wpAny _ _ (eval (Expr.ListComp _ _ _ _) _) _ _ _)); (fail_if_success (with_reducible show wpAny _ _ (call (Value.builtin "str.join") _) _ _ _)); (fail_if_success (with_reducible show wpAny _ _ (call (Value.builtin "str.replace") _) _ _ _)); (fail_if_success (with_reducible show NextMid _ _ _)); ((first | (k_unfold; (try dsimp only)) | walk1 | (dsimp only; walk1) | (leave1; (try dsimp only))))))
        (rename News _ _ _ _ => lN2)
        (rename Fr _ _ _ _ => lF2)
        exact ⟨rfl, _, _, _, drawL ns, _, rfl, lF2, List.forall_mem_singleton.mpr (lN2 _ (.tail _ (.tail _ (.head _)))), by omega, draw_free ns⟩
    case rest2 =>
      clear lF lN hns hlen
      rintro s' ⟨h, tk, m, d, td, rfl, lF, lN, hd28, hnd⟩
      have hszd := sz_S (l := d) (k := 1000) (by omega)
      refine execs_mid (Mid3 d s1 (ghostOf s1.heap [(81, 77)]) s1.heap.objs.size) ?first3 ?rest3
      case first3 =>
        (repeat' ((fail_if_success (with_reducible show wpAny _ _ (exec (Stmt.While _ _ _ _) _) _ _ _)); (fail_if_success (with_reducible show KswPost _ _ _ _ _ _ _ _ _ _ _ _ _ _)); (fail_if_success (with_reducible show wpAny _ _ (call (Value.ref _) _) _ _ _)); (fail_if_success (with_reducible show wpAny _ _ (call (Value.type "list") _) _ _ _)); (fail_if_success (with_reducible show wpAny _ _ (eval (Expr.ListComp _ _ _ _) _) _ _ _)); (fail_if_success (with_reducible show wpAny _ _ (call (Value.builtin "str.join") _) _ _ _)); (fail_if_success (with_reducible show wpAny _ _ (call (Value.builtin "str.replace") _) _ _ _)); (fail_if_success (with_reducible show NextMid _ _ _)); ((first | (k_unfold; (try dsimp only)) | walk1 | (dsimp only; walk1) | (leave1; (try dsimp only))))))
        refine replace_ge (Nat.succ_ne_zero _) (Nat.succ_ne_zero _) (Nat.ne_of_lt (Nat.lt_succ_self _)) (by decide) hszd (by decide) ?_
        intro t2 k2 hk2
        rw [show Txt.replace (S d) (Str.ofString "\\") (Str.ofString "\\\\") = S (subst 92 [92, 92] d) from replace_S d [92, 92] 92]
        have hl2 := subst_len (c := 92) (z := [92, 92]) rfl (l := d)
        have hsz2 := sz_S (l := subst 92 [92, 92] d) (k := 1000) (by omega)
        dsimp only at hk2 ⊢
        (repeat' ((fail_if_success (with_reducible show wpAny _ _ (exec (Stmt.While _ _ _ _) _) _ _ _)); (fail_if_success (with_reducible show KswPost _ _ _ _ _ _ _ _ _ _ _ _ _ _)); (fail_if_success (with_reducible show wpAny _ _ (call (Value.ref _) _) _ _ _)); (fail_if_success (with_reducible show wpAny _ _ (call (Value.type "list") _) _ _ _)); (fail_if_success (with_reducible show wpAny _ _ (eval (Expr.ListComp _ _ _ _) _) _ _ _)); (fail_if_success (with_reducible show wpAny _ _ (call (Value.builtin "str.join") _) _ _ _)); (fail_if_success (with_reducible show wpAny _ _ (call (Value.builtin "str.replace") _) _ _ _)); (fail_if_success (with_reducible show NextMid _ _ _)); ((first | (k_unfold; (try dsimp only)) | walk1 | (dsimp only; walk1) | (leave1; (try dsimp only))))))
        have hk0 : k2 ≠ 0 := by omega
        refine replace_ge hk0 (Nat.succ_ne_zero _) (Nat.ne_of_lt (Nat.lt_succ_self _)) (by decide) hsz2 (by decide) ?_
        intro t3 k3 hk3
        rw [show Txt.replace (S (subst 92 [92, 92] d)) (Str.ofString "\"") (Str.ofString "\\\"") = S (onceB d) from replace_S _ [92, 34] 34]
        have hl3 := once_len d
        have hsz3 := sz_S (l := onceB d) (k := 1000) (by omega)
        dsimp only
        (repeat' ((fail_if_success (with_reducible show wpAny _ _ (exec (Stmt.While _ _ _ _) _) _ _ _)); (fail_if_success (with_reducible show KswPost _ _ _ _ _ _ _ _ _ _ _ _ _ _)); (fail_if_success (with_reducible show wpAny _ _ (call (Value.ref _) _) _ _ _)); (fail_if_success (with_reducible show wpAny _ _ (call (Value.type "list") _) _ _ _)); (fail_if_success (with_reducible show wpAny _ _ (eval (Expr.ListComp _ _ _ _) _) _ _ _)); (fail_if_success (with_reducible show wpAny _ _ (call (Value.builtin "str.join") _) _ _ _)); (fail_if_success (with_reducible show wpAny _ _ (call (Value.builtin "str.replace") _) _ _ _)); (fail_if_success (with_reducible show NextMid _ _ _)); ((first | (k_unfold; (try dsimp only)) | walk1 | (dsimp only; walk1) | (leave1; (try dsimp only))))))
        (rename News _ _ _ _ => lN2)
        (rename Fr _ _ _ _ => lF2)
        have e3 : Str.ofString "\"" ++ S (onceB d) ++ Str.ofString "\"" = S (34 :: (onceB d ++ [34])) := (congrArg (· ++ S [34]) (S_append [34] (onceB d))).trans (S_append _ [34])
        rw [e3] at lF2
        exact ⟨rfl, _, _, _, _, _, rfl, lF2, lN2⟩
      case rest3 =>
        clear lF lN
        rintro s' ⟨h, tk, m, td, t1, rfl, lF, lN⟩
        refine execs_mid (Mid4 d s1 (ghostOf s1.heap [(81, 77)]) s1.heap.objs.size) ?first4 ?rest4
        case first4 =>
          (repeat' ((fail_if_success (with_reducible show wpAny _ _ (exec (Stmt.While _ _ _ _) _) _ _ _)); (fail_if_success (with_reducible show KswPost _ _ _ _ _ _ _ _ _ _ _ _ _ _)); (fail_if_success (with_reducible show wpAny _ _ (call (Value.ref _) _) _ _ _)); (fail_if_success (with_reducible show wpAny _ _ (call (Value.type "list") _) _ _ _)); (fail_if_success (with_reducible show wpAny _ _ (eval (Expr.ListComp _ _ _ _) _) _ _ _)); (fail_if_success (with_reducible show wpAny _ _ (call (Value.builtin "str.join") _) _ _ _)); (fail_if_success (with_reducible show wpAny _ _ (call (Value.builtin "str.replace") _) _ _ _)); (fail_if_success (with_reducible show NextMid _ _ _)); ((first | (k_unfold; (try dsimp only)) | walk1 | (dsimp only; walk1) | (leave1; (try dsimp only))))))
          with_unfolding_all refine' listComp_signs (l := d) (t := td) (f := fun c => Str.ofString "\\" ++ sgn c) lF lN (by omega) rfl (by decide) (by decide) rfl (by decide) rfl (fun Q' hQ' => ?_) ?_ ?_ (fun _ => rfl)
          · walk1
            exact hQ'
          · intro C2 c u s₂ m₂ E' hns hm
            (repeat ((fail_if_success (with_reducible show _ ∧ Keeps _ _)); ((first | (k_unfold; (try dsimp only)) | walk1 | (dsimp only; walk1) | (leave1; (try dsimp only))))))
            exact ⟨.str _ _, _, _, rfl, fun _ _ e => e⟩
          · intro D ys n h' tk' F' N' hsys
            (repeat' ((fail_if_success (with_reducible show wpAny _ _ (exec (Stmt.While _ _ _ _) _) _ _ _)); (fail_if_success (with_reducible show KswPost _ _ _ _ _ _ _ _ _ _ _ _ _ _)); (fail_if_success (with_reducible show wpAny _ _ (call (Value.ref _) _) _ _ _)); (fail_if_success (with_reducible show wpAny _ _ (call (Value.type "list") _) _ _ _)); (fail_if_success (with_reducible show wpAny _ _ (eval (Expr.ListComp _ _ _ _) _) _ _ _)); (fail_if_success (with_reducible show wpAny _ _ (call (Value.builtin "str.join") _) _ _ _)); (fail_if_success (with_reducible show wpAny _ _ (call (Value.builtin "str.replace") _) _ _ _)); (fail_if_success (with_reducible show NextMid _ _ _)); ((first | (k_unfold; (try dsimp only)) | walk1 | (dsimp only; walk1) | (leave1; (try dsimp only))))))
            refine join_list (News.isList N' (.head _)) hsys (by have := every_sum d; simp only [List.length_map] at *; show _ + _ * 0 ≤ _; omega) fun t' k => ?_
            rw [every_join]
            have hel := every_len d
            have hsze := sz_S (l := everyB d) (k := 1000) (by omega)
            (repeat' ((fail_if_success (with_reducible show wpAny _ _ (exec (Stmt.While _ _ _ _) _) _ _ _)); (fail_if_success (with_reducible show KswPost _ _ _ _ _ _ _ _ _ _ _ _ _ _)); (fail_if_success (with_reducible show wpAny _ _ (call (Value.ref _) _) _ _ _)); (fail_if_success (with_reducible show wpAny _ _ (call (Value.type "list") _) _ _ _)); (fail_if_success (with_reducible show wpAny _ _ (eval (Expr.ListComp _ _ _ _) _) _ _ _)); (fail_if_success (with_reducible show wpAny _ _ (call (Value.builtin "str.join") _) _ _ _)); (fail_if_success (with_reducible show wpAny _ _ (call (Value.builtin "str.replace") _) _ _ _)); (fail_if_success (with_reducible show NextMid _ _ _)); ((first | (k_unfold; (try dsimp only)) | walk1 | (dsimp only; walk1) | (leave1; (try dsimp only))))))
            (rename News _ _ _ _ => lN2)
            (rename Fr _ _ _ _ => lF2)
            exact ⟨rfl, _, _, _, _, _, _, rfl, lF2, List.forall_mem_singleton.mpr (lN2 _ (.tail _ (.head _)))⟩
        case rest4 =>
          clear lF lN
          rintro s' ⟨h, tk, m, td, t1, t2, rfl, lF, lN⟩
          have hol := once_len d
          have hel := every_len d
          have hszo := sz_S (l := 34 :: (onceB d ++ [34])) (k := 1000) (by simp; omega)
          have hsze := sz_S (l := everyB d) (k := 1000) (by omega)
          refine execs_mid (Mid4 d s1 (ghostOf s1.heap [(81, 77)]) s1.heap.objs.size) ?first5 ?rest5
          case first5 =>
            have ed : Str.ofString "\"" ++ S d ++ Str.ofString "\"" = S (34 :: (d ++ [34])) := (congrArg (· ++ S [34]) (S_append [34] d)).trans (S_append _ [34])
            have ee : Str.ofString "\"" ++ S (everyB d) ++ Str.ofString "\"" = S (34 :: (everyB d ++ [34])) := (congrArg (· ++ S [34]) (S_append [34] (everyB d))).trans (S_append _ [34])
            (repeat' ((fail_if_success (with_reducible show wpAny _ _ (call (Value.ref _) _) _ _ _)); (fail_if_success (with_reducible show wpAny _ _ (call (Value.type "list") _) _ _ _)); (fail_if_success (with_reducible show wpAny _ _ (compareOp CmpOp.NotEq (Value.ref _) _) _ _ _)); (fail_if_success (with_reducible show wpAny _ _ (compareOp CmpOp.NotEq (Value.str _ _) _) _ _ _)); (fail_if_success (with_reducible show NextMid _ _ _)); ((first | (k_unfold; (try dsimp only)) | walk1 | (dsimp only; walk1) | (leave1; (try dsimp only))))))
            (rename News _ _ _ _ => lN2)
            (rename Fr _ _ _ _ => lF2)
            refine (parse_S (l := 34 :: (onceB d ++ [34])) rfl (by simp; omega)).call (At.of B lF2 X T C lN2 (fun _ h => nomatch h) rfl rfl rfl rfl rfl (Nat.le_of_ble_eq_true rfl) (Nat.le_of_ble_eq_true rfl)) trivial ?_
            rintro r h2 tk2 hk2 ⟨pa, vsa, na, rfl, hfra, hgeta, hvsa⟩
            have F2 := hk2.fr0 lF2
            have N2 := hk2.news1 lF2 lN2 hfra hgeta
            rw [parse_once] at hvsa
            clear lF2 lN2
            (try dsimp only)
            (repeat' ((fail_if_success (with_reducible show wpAny _ _ (call (Value.ref _) _) _ _ _)); (fail_if_success (with_reducible show wpAny _ _ (call (Value.type "list") _) _ _ _)); (fail_if_success (with_reducible show wpAny _ _ (compareOp CmpOp.NotEq (Value.ref _) _) _ _ _)); (fail_if_success (with_reducible show wpAny _ _ (compareOp CmpOp.NotEq (Value.str _ _) _) _ _ _)); (fail_if_success (with_reducible show NextMid _ _ _)); ((first | (k_unfold; (try dsimp only)) | walk1 | (dsimp only; walk1) | (leave1; (try dsimp only))))))
            (rename News _ _ _ _ => lN2)
            (rename Fr _ _ _ _ => lF2)
            refine ne_same (ns := [S (34 :: (d ++ [34]))]) (News.isList lN2 (.tail _ (.head _))) (News.isList lN2 (.head _)) hvsa (ed ▸ .cons _ _ .nil) (Nat.le_of_ble_eq_true rfl) ?_
            (repeat' ((fail_if_success (with_reducible show wpAny _ _ (call (Value.ref _) _) _ _ _)); (fail_if_success (with_reducible show wpAny _ _ (call (Value.type "list") _) _ _ _)); (fail_if_success (with_reducible show wpAny _ _ (compareOp CmpOp.NotEq (Value.ref _) _) _ _ _)); (fail_if_success (with_reducible show wpAny _ _ (compareOp CmpOp.NotEq (Value.str _ _) _) _ _ _)); (fail_if_success (with_reducible show NextMid _ _ _)); ((first | (k_unfold; (try dsimp only)) | walk1 | (dsimp only; walk1) | (leave1; (try dsimp only))))))
            (rename News _ _ _ _ => lN2)
            (rename Fr _ _ _ _ => lF2)
            refine (parse_S (l := 34 :: (everyB d ++ [34])) ee (by simp; omega)).call (At.of B lF2 X T C lN2 (fun _ h => nomatch h) rfl rfl rfl rfl rfl (Nat.le_of_ble_eq_true rfl) (Nat.le_of_ble_eq_true rfl)) trivial ?_
            rintro r h3 tk3 hk3 ⟨pb, vsb, nb, rfl, hfrb, hgetb, hvsb⟩
            have F3 := hk3.fr0 lF2
            have N3 := hk3.news1 lF2 lN2 hfrb hgetb
            rw [parse_every] at hvsb
            clear lF2 lN2
            (try dsimp only)
            (repeat' ((fail_if_success (with_reducible show wpAny _ _ (call (Value.ref _) _) _ _ _)); (fail_if_success (with_reducible show wpAny _ _ (call (Value.type "list") _) _ _ _)); (fail_if_success (with_reducible show wpAny _ _ (compareOp CmpOp.NotEq (Value.ref _) _) _ _ _)); (fail_if_success (with_reducible show wpAny _ _ (compareOp CmpOp.NotEq (Value.str _ _) _) _ _ _)); (fail_if_success (with_reducible show NextMid _ _ _)); ((first | (k_unfold; (try dsimp only)) | walk1 | (dsimp only; walk1) | (leave1; (try dsimp only))))))
            (rename News _ _ _ _ => lN2)
            (rename Fr _ _ _ _ => lF2)
            refine ne_same (ns := [S (34 :: (d ++ [34]))]) (News.isList lN2 (.tail _ (.head _))) (News.isList lN2 (.head _)) hvsb (ed ▸ .cons _ _ .nil) (Nat.le_of_ble_eq_true rfl) ?_
            (repeat' ((fail_if_success (with_reducible show wpAny _ _ (call (Value.ref _) _) _ _ _)); (fail_if_success (with_reducible show wpAny _ _ (call (Value.type "list") _) _ _ _)); (fail_if_success (with_reducible show wpAny _ _ (compareOp CmpOp.NotEq (Value.ref _) _) _ _ _)); (fail_if_success (with_reducible show wpAny _ _ (compareOp CmpOp.NotEq (Value.str _ _) _) _ _ _)); (fail_if_success (with_reducible show NextMid _ _ _)); ((first | (k_unfold; (try dsimp only)) | walk1 | (dsimp only; walk1) | (leave1; (try dsimp only))))))
            (rename News _ _ _ _ => lN2)
            (rename Fr _ _ _ _ => lF2)
            exact ⟨rfl, _, _, _, _, _, _, rfl, fr3 lF2 (by with_unfolding_all rfl) (by with_unfolding_all rfl) (by with_unfolding_all rfl), List.forall_mem_singleton.mpr (lN2 _ (by repeat first | exact .head _ | refine .tail _ ?_))⟩
          case rest5 =>
            clear lF lN
            rintro s' ⟨h, tk, m, td, t1, t2, rfl, lF, lN⟩
            refine execs_mid (Mid5 d s1 (ghostOf s1.heap [(81, 77)]) s1.heap.objs.size) ?first6 ?rest6
            case first6 =>
              have ee : Str.ofString "\"" ++ S (everyB d) ++ Str.ofString "\"" = S (34 :: (everyB d ++ [34])) := (congrArg (· ++ S [34]) (S_append [34] (everyB d))).trans (S_append _ [34])
              (repeat' ((fail_if_success (with_reducible show wpAny _ _ (call (Value.ref _) _) _ _ _)); (fail_if_success (with_reducible show wpAny _ _ (call (Value.type "list") _) _ _ _)); (fail_if_success (with_reducible show wpAny _ _ (compareOp CmpOp.NotEq (Value.ref _) _) _ _ _)); (fail_if_success (with_reducible show wpAny _ _ (compareOp CmpOp.NotEq (Value.str _ _) _) _ _ _)); (fail_if_success (with_reducible show NextMid _ _ _)); ((first | (k_unfold; (try dsimp only)) | walk1 | (dsimp only; walk1) | (leave1; (try dsimp only))))))
              (rename News _ _ _ _ => lN2)
              (rename Fr _ _ _ _ => lF2)
              refine list_S (l := 34 :: (onceB d ++ [34])) rfl (by (try simp); omega) rfl lF2 lN2 ?_
              intro sgq1 h2q1 tk2q1 ysq1 n2q1 F2 N2 hysq1 hltq1
              clear lF2 lN2
              dsimp only
              (repeat' ((fail_if_success (with_reducible show wpAny _ _ (call (Value.ref _) _) _ _ _)); (fail_if_success (with_reducible show wpAny _ _ (call (Value.type "list") _) _ _ _)); (fail_if_success (with_reducible show wpAny _ _ (compareOp CmpOp.NotEq (Value.ref _) _) _ _ _)); (fail_if_success (with_reducible show wpAny _ _ (compareOp CmpOp.NotEq (Value.str _ _) _) _ _ _)); (fail_if_success (with_reducible show NextMid _ _ _)); ((first | (k_unfold; (try dsimp only)) | walk1 | (dsimp only; walk1) | (leave1; (try dsimp only))))))
              (rename News _ _ _ _ => lN2)
              (rename Fr _ _ _ _ => lF2)
              have h7sq1 : @LT.lt Nat _ 77 sgq1 := hltq1 _ (.tail _ (.tail _ (.head _)))
              refine (lexer_told2 (o := tabObj #[])).call (At.of (hid := [(77, tabObj #[])]) B lF2 X T C lN2 (fun q hq => by rw [List.mem_singleton.mp hq]; exact .tail _ (.tail _ (.tail _ (.head _)))) rfl rfl rfl rfl rfl (Nat.le_of_ble_eq_true rfl) (Nat.le_of_ble_eq_true rfl)) ⟨⟨_, (lN2 _ (.head _)).1⟩, .inl rfl⟩ ?_
              rintro r h3q1 tk3q1 hk3q1 ⟨aq1, tl3q1, ⟨rfl, rfl, okq1, hp1q1, hp2q1, h77q1, hcodeq1⟩, hfq1⟩
              have hciq1 := code_ne hfq1 (lN2 _ (.tail _ (.tail _ (.tail _ (.head _))))).1 (lN2 _ (.tail _ (.head _))).1
              obtain ⟨F3q1, exq1, Tq1, xq1, yq1, N3q1⟩ := made_news2 (news := [(aq1.sg, _), (_, _), (_, _)]) hk3q1 lF2 lN2 (List.forall_mem_cons.mpr ⟨fun h => Nat.lt_irrefl _ (h ▸ h7sq1), List.forall_mem_cons.mpr ⟨Nat.ne_of_gt (show @LT.lt Nat _ 77 _ by dsimp only; omega), List.forall_mem_cons.mpr ⟨Nat.ne_of_gt (show @LT.lt Nat _ 77 _ by dsimp only; omega), List.forall_mem_nil _⟩⟩⟩) hp1q1 hp2q1 h77q1 hcodeq1
              clear lF2 lN2 hk3q1 hp1q1 hp2q1 h77q1 hfq1
              dsimp only [lexParts, lexLed, List.take, List.cons_append, List.nil_append] at N3q1
              (try dsimp only)
              (repeat' ((fail_if_success (with_reducible show wpAny _ _ (call (Value.ref _) _) _ _ _)); (fail_if_success (with_reducible show wpAny _ _ (call (Value.type "list") _) _ _ _)); (fail_if_success (with_reducible show wpAny _ _ (compareOp CmpOp.NotEq (Value.ref _) _) _ _ _)); (fail_if_success (with_reducible show wpAny _ _ (compareOp CmpOp.NotEq (Value.str _ _) _) _ _ _)); (fail_if_success (with_reducible show NextMid _ _ _)); ((first | (k_unfold; (try dsimp only)) | walk1 | (dsimp only; walk1) | (leave1; (try dsimp only))))))
              (rename News _ _ _ _ => lN2)
              (rename Fr _ _ _ _ => lF2)
              have hysq1' := sz_vs' hysq1
              have N4q1 : News _ _ h3q1 (lexLed w aq1 1 tl3q1 ysq1 n2q1 ++ ([(_, _), (_, _)] ++ (77, tabHit aq1.c) :: exq1)) := lN2
              refine (tok_told okq1 hysq1 (by (try simp); omega) ⟨by decide, by (try simp); omega⟩).call (At.of (hid := lexLed w aq1 1 tl3q1 ysq1 n2q1) B lF2 X T C N4q1 (fun q hq => List.mem_append_left _ hq) rfl rfl rfl rfl rfl (Nat.le_of_ble_eq_true rfl) (Nat.le_of_ble_eq_true rfl)) hcodeq1 ?_
              rintro r h4q1 tk4q1 hk4q1 ⟨⟨t4q1, rfl⟩, tl4q1, vs4q1, n4q1, hv4q1, hg4q1⟩
              obtain ⟨F4q1, N5q1⟩ := tok_news (news := [(_, _), (_, _)]) hk4q1 lF2 N4q1 okq1 (List.forall_mem_cons.mpr ⟨hltq1 _ (.head _), List.forall_mem_cons.mpr ⟨hltq1 _ (.tail _ (.head _)), List.forall_mem_nil _⟩⟩) h7sq1 xq1 hg4q1
              have N6q1 : News _ _ h4q1 (_ :: _ :: (77, tabHit aq1.c) :: exq1) := fun p hp => N5q1 p (List.mem_append_right _ hp)
              clear lF2 lN2 N4q1 N5q1 hg4q1
              rw [tok_once d]
              (try dsimp only)
              (repeat' ((fail_if_success (with_reducible show wpAny _ _ (call (Value.ref _) _) _ _ _)); (fail_if_success (with_reducible show wpAny _ _ (call (Value.type "list") _) _ _ _)); (fail_if_success (with_reducible show wpAny _ _ (compareOp CmpOp.NotEq (Value.ref _) _) _ _ _)); (fail_if_success (with_reducible show wpAny _ _ (compareOp CmpOp.NotEq (Value.str _ _) _) _ _ _)); (fail_if_success (with_reducible show NextMid _ _ _)); ((first | (k_unfold; (try dsimp only)) | walk1 | (dsimp only; walk1) | (leave1; (try dsimp only))))))
              refine ne_str ?_
              simp only [bne_self_eq_false]
              (repeat' ((fail_if_success (with_reducible show UnrEndW _ _ _ _ _ _)); (fail_if_success (with_reducible show wpAny _ _ (call (Value.ref _) _) _ _ _)); (fail_if_success (with_reducible show wpAny _ _ (call (Value.type "list") _) _ _ _)); (fail_if_success (with_reducible show wpAny _ _ (compareOp CmpOp.NotEq (Value.ref _) _) _ _ _)); (fail_if_success (with_reducible show wpAny _ _ (compareOp CmpOp.NotEq (Value.str _ _) _) _ _ _)); (fail_if_success (with_reducible show NextMid _ _ _)); ((first | (k_unfold; (try dsimp only)) | walk1 | (dsimp only; walk1) | (leave1; (try dsimp only))))))
              refine ⟨_, _, _, (_, _) :: (77, tabHit aq1.c) :: exq1, rfl, F4q1, N6q1, List.forall_mem_cons.mpr ⟨List.forall_mem_singleton.mpr (Nat.ne_of_lt (show @LT.lt Nat _ _ _ by dsimp only; omega)), List.forall_mem_cons.mpr ⟨List.forall_mem_singleton.mpr (Nat.ne_of_lt (show @LT.lt Nat _ 77 _ by dsimp only; omega)), fun p hp => List.forall_mem_singleton.mpr (yq1 p hp ▸ hciq1)⟩⟩, ⟨.head _, trivial⟩, ?_⟩
              clear F4q1 N6q1 hk4q1 hv4q1 hysq1 hysq1' hltq1 h7sq1 okq1 hcodeq1 yq1
              (repeat' ((fail_if_success (with_reducible show wpAny _ _ (call (Value.ref _) _) _ _ _)); (fail_if_success (with_reducible show wpAny _ _ (call (Value.type "list") _) _ _ _)); (fail_if_success (with_reducible show wpAny _ _ (compareOp CmpOp.NotEq (Value.ref _) _) _ _ _)); (fail_if_success (with_reducible show wpAny _ _ (compareOp CmpOp.NotEq (Value.str _ _) _) _ _ _)); (fail_if_success (with_reducible show NextMid _ _ _)); ((first | (k_unfold; (try dsimp only)) | walk1 | (dsimp only; walk1) | (leave1; (try dsimp only))))))
              (rename News _ _ _ _ => lN2)
              (rename Fr _ _ _ _ => lF2)
              refine list_S (l := 34 :: (everyB d ++ [34])) ee (by (try simp); omega) rfl lF2 lN2 ?_
              intro sgq2 h2q2 tk2q2 ysq2 n2q2 F2 N2 hysq2 hltq2
              clear lF2 lN2
              dsimp only
              (repeat' ((fail_if_success (with_reducible show wpAny _ _ (call (Value.ref _) _) _ _ _)); (fail_if_success (with_reducible show wpAny _ _ (call (Value.type "list") _) _ _ _)); (fail_if_success (with_reducible show wpAny _ _ (compareOp CmpOp.NotEq (Value.ref _) _) _ _ _)); (fail_if_success (with_reducible show wpAny _ _ (compareOp CmpOp.NotEq (Value.str _ _) _) _ _ _)); (fail_if_success (with_reducible show NextMid _ _ _)); ((first | (k_unfold; (try dsimp only)) | walk1 | (dsimp only; walk1) | (leave1; (try dsimp only))))))
              (rename News _ _ _ _ => lN2)
              (rename Fr _ _ _ _ => lF2)
              have h7sq2 : @LT.lt Nat _ 77 sgq2 := hltq2 _ (.tail _ (.tail _ (.head _)))
              refine (lexer_told2 (o := tabHit aq1.c)).call (At.of (hid := [(77, tabHit aq1.c)]) B lF2 X T C lN2 (fun q hq => by rw [List.mem_singleton.mp hq]; exact .tail _ (.tail _ (.tail _ (.head _)))) rfl rfl rfl rfl rfl (Nat.le_of_ble_eq_true rfl) (Nat.le_of_ble_eq_true rfl)) ⟨⟨_, (lN2 _ (.head _)).1⟩, Tq1.tab lF2 lN2 (fun p hp => .tail _ (.tail _ (.tail _ (.tail _ hp))))⟩ ?_
              rintro r h3q2 tk3q2 hk3q2 ⟨aq2, tl3q2, ⟨rfl, rfl, okq2, hp1q2, hp2q2, h77q2, hcodeq2⟩, hfq2⟩
              have hciq2 := code_ne2 hfq2 (lN2 _ (.tail _ (.tail _ (.tail _ (.head _))))).1 hciq1 (lN2 _ (.tail _ (.head _))).1
              obtain ⟨F3q2, exq2, Tq2, xq2, yq2, N3q2⟩ := made_news2 (news := [(aq2.sg, _), (_, _), (_, _)]) hk3q2 lF2 lN2 (List.forall_mem_cons.mpr ⟨fun h => Nat.lt_irrefl _ (h ▸ h7sq2), List.forall_mem_cons.mpr ⟨Nat.ne_of_gt (show @LT.lt Nat _ 77 _ by dsimp only; omega), List.forall_mem_cons.mpr ⟨Nat.ne_of_gt (show @LT.lt Nat _ 77 _ by dsimp only; omega), List.forall_mem_nil _⟩⟩⟩) hp1q2 hp2q2 h77q2 hcodeq2
              clear lF2 lN2 hk3q2 hp1q2 hp2q2 h77q2 hfq2
              dsimp only [lexParts, lexLed, List.take, List.cons_append, List.nil_append] at N3q2
              (try dsimp only)
              (repeat' ((fail_if_success (with_reducible show wpAny _ _ (call (Value.ref _) _) _ _ _)); (fail_if_success (with_reducible show wpAny _ _ (call (Value.type "list") _) _ _ _)); (fail_if_success (with_reducible show wpAny _ _ (compareOp CmpOp.NotEq (Value.ref _) _) _ _ _)); (fail_if_success (with_reducible show wpAny _ _ (compareOp CmpOp.NotEq (Value.str _ _) _) _ _ _)); (fail_if_success (with_reducible show NextMid _ _ _)); ((first | (k_unfold; (try dsimp only)) | walk1 | (dsimp only; walk1) | (leave1; (try dsimp only))))))
              (rename News _ _ _ _ => lN2)
              (rename Fr _ _ _ _ => lF2)
              have hysq2' := sz_vs' hysq2
              have N4q2 : News _ _ h3q2 (lexLed w aq2 1 tl3q2 ysq2 n2q2 ++ ([(_, _), (_, _)] ++ (77, tabHit aq2.c) :: exq2)) := lN2
              refine (tok_told okq2 hysq2 (by (try simp); omega) ⟨by decide, by (try simp); omega⟩).call (At.of (hid := lexLed w aq2 1 tl3q2 ysq2 n2q2) B lF2 X T C N4q2 (fun q hq => List.mem_append_left _ hq) rfl rfl rfl rfl rfl (Nat.le_of_ble_eq_true rfl) (Nat.le_of_ble_eq_true rfl)) hcodeq2 ?_
              rintro r h4q2 tk4q2 hk4q2 ⟨⟨t4q2, rfl⟩, tl4q2, vs4q2, n4q2, hv4q2, hg4q2⟩
              obtain ⟨F4q2, N5q2⟩ := tok_news (news := [(_, _), (_, _)]) hk4q2 lF2 N4q2 okq2 (List.forall_mem_cons.mpr ⟨hltq2 _ (.head _), List.forall_mem_cons.mpr ⟨hltq2 _ (.tail _ (.head _)), List.forall_mem_nil _⟩⟩) h7sq2 xq2 hg4q2
              have N6q2 : News _ _ h4q2 (_ :: _ :: (77, tabHit aq2.c) :: exq2) := fun p hp => N5q2 p (List.mem_append_right _ hp)
              clear lF2 lN2 N4q2 N5q2 hg4q2
              rw [tok_everyQ d]
              (try dsimp only)
              (repeat' ((fail_if_success (with_reducible show wpAny _ _ (call (Value.ref _) _) _ _ _)); (fail_if_success (with_reducible show wpAny _ _ (call (Value.type "list") _) _ _ _)); (fail_if_success (with_reducible show wpAny _ _ (compareOp CmpOp.NotEq (Value.ref _) _) _ _ _)); (fail_if_success (with_reducible show wpAny _ _ (compareOp CmpOp.NotEq (Value.str _ _) _) _ _ _)); (fail_if_success (with_reducible show NextMid _ _ _)); ((first | (k_unfold; (try dsimp only)) | walk1 | (dsimp only; walk1) | (leave1; (try dsimp only))))))
              refine ne_str ?_
              simp only [bne_self_eq_false]
              (repeat' ((fail_if_success (with_reducible show UnrEndW _ _ _ _ _ _)); (fail_if_success (with_reducible show wpAny _ _ (call (Value.ref _) _) _ _ _)); (fail_if_success (with_reducible show wpAny _ _ (call (Value.type "list") _) _ _ _)); (fail_if_success (with_reducible show wpAny _ _ (compareOp CmpOp.NotEq (Value.ref _) _) _ _ _)); (fail_if_success (with_reducible show wpAny _ _ (compareOp CmpOp.NotEq (Value.str _ _) _) _ _ _)); (fail_if_success (with_reducible show NextMid _ _ _)); ((first | (k_unfold; (try dsimp only)) | walk1 | (dsimp only; walk1) | (leave1; (try dsimp only))))))
              refine ⟨_, _, _, (_, _) :: (77, tabHit aq2.c) :: exq2, rfl, F4q2, N6q2, List.forall_mem_cons.mpr ⟨List.forall_mem_singleton.mpr (Nat.ne_of_lt (show @LT.lt Nat _ _ _ by dsimp only; omega)), List.forall_mem_cons.mpr ⟨List.forall_mem_singleton.mpr (Nat.ne_of_lt (show @LT.lt Nat _ 77 _ by dsimp only; omega)), fun p hp => List.forall_mem_singleton.mpr (yq2 p hp ▸ hciq2)⟩⟩, ⟨.head _, trivial⟩, ?_⟩
              clear F4q2 N6q2 hk4q2 hv4q2 hysq2 hysq2' hltq2 h7sq2 okq2 hcodeq2 yq2
              (repeat' ((fail_if_success (with_reducible show wpAny _ _ (call (Value.ref _) _) _ _ _)); (fail_if_success (with_reducible show wpAny _ _ (call (Value.type "list") _) _ _ _)); (fail_if_success (with_reducible show wpAny _ _ (compareOp CmpOp.NotEq (Value.ref _) _) _ _ _)); (fail_if_success (with_reducible show wpAny _ _ (compareOp CmpOp.NotEq (Value.str _ _) _) _ _ _)); (fail_if_success (with_reducible show NextMid _ _ _)); ((first | (k_unfold; (try dsimp only)) | walk1 | (dsimp only; walk1) | (leave1; (try dsimp only))))))
              (rename News _ _ _ _ => lN2)
              (rename Fr _ _ _ _ => lF2)
              refine list_S (l := everyB d) rfl (by (try simp); omega) rfl lF2 lN2 ?_
              intro sgq3 h2q3 tk2q3 ysq3 n2q3 F2 N2 hysq3 hltq3
              clear lF2 lN2
              dsimp only
              (repeat' ((fail_if_success (with_reducible show wpAny _ _ (call (Value.ref _) _) _ _ _)); (fail_if_success (with_reducible show wpAny _ _ (call (Value.type "list") _) _ _ _)); (fail_if_success (with_reducible show wpAny _ _ (compareOp CmpOp.NotEq (Value.ref _) _) _ _ _)); (fail_if_success (with_reducible show wpAny _ _ (compareOp CmpOp.NotEq (Value.str _ _) _) _ _ _)); (fail_if_success (with_reducible show NextMid _ _ _)); ((first | (k_unfold; (try dsimp only)) | walk1 | (dsimp only; walk1) | (leave1; (try dsimp only))))))
              (rename News _ _ _ _ => lN2)
              (rename Fr _ _ _ _ => lF2)
              have h7sq3 : @LT.lt Nat _ 77 sgq3 := hltq3 _ (.tail _ (.tail _ (.head _)))
              refine (lexer_told2 (o := tabHit aq2.c)).call (At.of (hid := [(77, tabHit aq2.c)]) B lF2 X T C lN2 (fun q hq => by rw [List.mem_singleton.mp hq]; exact .tail _ (.tail _ (.tail _ (.head _)))) rfl rfl rfl rfl rfl (Nat.le_of_ble_eq_true rfl) (Nat.le_of_ble_eq_true rfl)) ⟨⟨_, (lN2 _ (.head _)).1⟩, Tq2.tab lF2 lN2 (fun p hp => .tail _ (.tail _ (.tail _ (.tail _ hp))))⟩ ?_
              rintro r h3q3 tk3q3 hk3q3 ⟨aq3, tl3q3, ⟨rfl, rfl, okq3, hp1q3, hp2q3, h77q3, hcodeq3⟩, hfq3⟩
              have hciq3 := code_ne2 hfq3 (lN2 _ (.tail _ (.tail _ (.tail _ (.head _))))).1 hciq2 (lN2 _ (.tail _ (.head _))).1
              obtain ⟨F3q3, exq3, Tq3, xq3, yq3, N3q3⟩ := made_news2 (news := [(aq3.sg, _), (_, _), (_, _)]) hk3q3 lF2 lN2 (List.forall_mem_cons.mpr ⟨fun h => Nat.lt_irrefl _ (h ▸ h7sq3), List.forall_mem_cons.mpr ⟨Nat.ne_of_gt (show @LT.lt Nat _ 77 _ by dsimp only; omega), List.forall_mem_cons.mpr ⟨Nat.ne_of_gt (show @LT.lt Nat _ 77 _ by dsimp only; omega), List.forall_mem_nil _⟩⟩⟩) hp1q3 hp2q3 h77q3 hcodeq3
              clear lF2 lN2 hk3q3 hp1q3 hp2q3 h77q3 hfq3
              dsimp only [lexParts, lexLed, List.take, List.cons_append, List.nil_append] at N3q3
              (try dsimp only)
              (repeat' ((fail_if_success (with_reducible show wpAny _ _ (call (Value.ref _) _) _ _ _)); (fail_if_success (with_reducible show wpAny _ _ (call (Value.type "list") _) _ _ _)); (fail_if_success (with_reducible show wpAny _ _ (compareOp CmpOp.NotEq (Value.ref _) _) _ _ _)); (fail_if_success (with_reducible show wpAny _ _ (compareOp CmpOp.NotEq (Value.str _ _) _) _ _ _)); (fail_if_success (with_reducible show NextMid _ _ _)); ((first | (k_unfold; (try dsimp only)) | walk1 | (dsimp only; walk1) | (leave1; (try dsimp only))))))
              (rename News _ _ _ _ => lN2)
              (rename Fr _ _ _ _ => lF2)
              have hysq3' := sz_vs' hysq3
              have N4q3 : News _ _ h3q3 (lexLed w aq3 1 tl3q3 ysq3 n2q3 ++ ([(_, _), (_, _)] ++ (77, tabHit aq3.c) :: exq3)) := lN2
              refine (tok_told okq3 hysq3 (by (try simp); omega) ⟨by decide, by (try simp); omega⟩).call (At.of (hid := lexLed w aq3 1 tl3q3 ysq3 n2q3) B lF2 X T C N4q3 (fun q hq => List.mem_append_left _ hq) rfl rfl rfl rfl rfl (Nat.le_of_ble_eq_true rfl) (Nat.le_of_ble_eq_true rfl)) hcodeq3 ?_
              rintro r h4q3 tk4q3 hk4q3 ⟨⟨t4q3, rfl⟩, tl4q3, vs4q3, n4q3, hv4q3, hg4q3⟩
              obtain ⟨F4q3, N5q3⟩ := tok_news (news := [(_, _), (_, _)]) hk4q3 lF2 N4q3 okq3 (List.forall_mem_cons.mpr ⟨hltq3 _ (.head _), List.forall_mem_cons.mpr ⟨hltq3 _ (.tail _ (.head _)), List.forall_mem_nil _⟩⟩) h7sq3 xq3 hg4q3
              have N6q3 : News _ _ h4q3 (_ :: _ :: (77, tabHit aq3.c) :: exq3) := fun p hp => N5q3 p (List.mem_append_right _ hp)
              clear lF2 lN2 N4q3 N5q3 hg4q3
              rw [tok_every d]
              (try dsimp only)
              (repeat' ((fail_if_success (with_reducible show wpAny _ _ (call (Value.ref _) _) _ _ _)); (fail_if_success (with_reducible show wpAny _ _ (call (Value.type "list") _) _ _ _)); (fail_if_success (with_reducible show wpAny _ _ (compareOp CmpOp.NotEq (Value.ref _) _) _ _ _)); (fail_if_success (with_reducible show wpAny _ _ (compareOp CmpOp.NotEq (Value.str _ _) _) _ _ _)); (fail_if_success (with_reducible show NextMid _ _ _)); ((first | (k_unfold; (try dsimp only)) | walk1 | (dsimp only; walk1) | (leave1; (try dsimp only))))))
              refine ne_str ?_
              simp only [bne_self_eq_false]
              (repeat' ((fail_if_success (with_reducible show UnrEndW _ _ _ _ _ _)); (fail_if_success (with_reducible show wpAny _ _ (call (Value.ref _) _) _ _ _)); (fail_if_success (with_reducible show wpAny _ _ (call (Value.type "list") _) _ _ _)); (fail_if_success (with_reducible show wpAny _ _ (compareOp CmpOp.NotEq (Value.ref _) _) _ _ _)); (fail_if_success (with_reducible show wpAny _ _ (compareOp CmpOp.NotEq (Value.str _ _) _) _ _ _)); (fail_if_success (with_reducible show NextMid _ _ _)); ((first | (k_unfold; (try dsimp only)) | walk1 | (dsimp only; walk1) | (leave1; (try dsimp only))))))
              refine ⟨_, _, _, (_, _) :: (77, tabHit aq3.c) :: exq3, rfl, F4q3, N6q3, List.forall_mem_cons.mpr ⟨List.forall_mem_singleton.mpr (Nat.ne_of_lt (show @LT.lt Nat _ _ _ by dsimp only; omega)), List.forall_mem_cons.mpr ⟨List.forall_mem_singleton.mpr (Nat.ne_of_lt (show @LT.lt Nat _ 77 _ by dsimp only; omega)), fun p hp => List.forall_mem_singleton.mpr (yq3 p hp ▸ hciq3)⟩⟩, ⟨.head _, trivial⟩, ?_⟩
              clear F4q3 N6q3 hk4q3 hv4q3 hysq3 hysq3' hltq3 h7sq3 okq3 hcodeq3 yq3
              (repeat' ((fail_if_success (with_reducible show wpAny _ _ (call (Value.ref _) _) _ _ _)); (fail_if_success (with_reducible show wpAny _ _ (call (Value.type "list") _) _ _ _)); (fail_if_success (with_reducible show wpAny _ _ (compareOp CmpOp.NotEq (Value.ref _) _) _ _ _)); (fail_if_success (with_reducible show wpAny _ _ (compareOp CmpOp.NotEq (Value.str _ _) _) _ _ _)); (fail_if_success (with_reducible show NextMid _ _ _)); ((first | (k_unfold; (try dsimp only)) | walk1 | (dsimp only; walk1) | (leave1; (try dsimp only))))))
              (rename News _ _ _ _ => lN2)
              (rename Fr _ _ _ _ => lF2)
              exact ⟨rfl, _, _, _, _, _, _, rfl, fr1 lF2 (by with_unfolding_all rfl), Tq3, xq3, fun p hp => lN2 p (.tail _ hp)⟩
            case rest6 =>
              clear lF lN
              rintro s' ⟨h, tk, m, td, o, ex, rfl, lF, hTF, hEx, lN⟩
              (repeat' ((fail_if_success (with_reducible show wpAny _ _ (call (Value.ref _) _) _ _ _)); (fail_if_success (with_reducible show wpAny _ _ (call (Value.type "list") _) _ _ _)); (fail_if_success (with_reducible show wpAny _ _ (compareOp CmpOp.NotEq (Value.ref _) _) _ _ _)); (fail_if_success (with_reducible show wpAny _ _ (compareOp CmpOp.NotEq (Value.str _ _) _) _ _ _)); (fail_if_success (with_reducible show NextMid _ _ _)); ((first | (k_unfold; (try dsimp only)) | walk1 | (dsimp only; walk1) | (leave1; (try dsimp only))))))
              (rename News _ _ _ _ => lN2)
              (rename Fr _ _ _ _ => lF2)
              refine (alike_told (l := []) (o := o) (by simp) (by simp)).call (At.of (hid := [(77, o)]) B lF2 X T C lN2 (fun q hq => by rw [List.mem_singleton.mp hq]; exact .head _) rfl rfl rfl rfl rfl (Nat.le_of_ble_eq_true rfl) (Nat.le_of_ble_eq_true rfl)) (hTF.tab lF2 lN2 (fun p hp => .tail _ hp)) ?_
              rintro r h6 tk6 hk6 ⟨rfl, o6, hg6, hT6⟩
              obtain ⟨F6, ex6, T6, x6, N6⟩ := tab_news (news := []) (add := []) hk6 lF2 lN2 (fun _ h => nomatch h) (fun _ h => nomatch h) hg6 hT6
              clear lF2 lN2
              dsimp only [List.nil_append] at N6
              (try dsimp only)
              (repeat' ((fail_if_success (with_reducible show wpAny _ _ (call (Value.ref _) _) _ _ _)); (fail_if_success (with_reducible show wpAny _ _ (call (Value.type "list") _) _ _ _)); (fail_if_success (with_reducible show wpAny _ _ (compareOp CmpOp.NotEq (Value.ref _) _) _ _ _)); (fail_if_success (with_reducible show wpAny _ _ (compareOp CmpOp.NotEq (Value.str _ _) _) _ _ _)); (fail_if_success (with_reducible show NextMid _ _ _)); ((first | (k_unfold; (try dsimp only)) | walk1 | (dsimp only; walk1) | (leave1; (try dsimp only))))))
              (rename News _ _ _ _ => lN2)
              (rename Fr _ _ _ _ => lF2)
              refine (alike_told (l := d) (o := o6) (by omega) hnd).call (At.of (hid := [(77, o6)]) B lF2 X T C lN2 (fun q hq => by rw [List.mem_singleton.mp hq]; exact .head _) rfl rfl rfl rfl rfl (Nat.le_of_ble_eq_true rfl) (Nat.le_of_ble_eq_true rfl)) (T6.tab lF2 lN2 (fun p hp => .tail _ hp)) ?_
              rintro r h7 tk7 hk7 ⟨rfl, o7, hg7, hT7⟩
              obtain ⟨F7, ex7, T7, x7, N7⟩ := tab_news (news := []) (add := []) hk7 lF2 lN2 (fun _ h => nomatch h) (fun _ h => nomatch h) hg7 hT7
              clear lF2 lN2
              dsimp only [List.nil_append] at N7
              (try dsimp only)
              refine And.intro (goodW_bool F7 (by assumption) (raisesW_false ?_) ?_) ⟨tab_grown hg7 hT7, trivial⟩
              · wrow_none_raised
              · wrow_post
end Mine
end
theorem PySem.Challenge.cw_pk0046_01_holds : PySem.Challenge.rw_pk0046_01.Holds :=
  Mine.holds
