import PyProof.Rows.All
import Wide.All
import OpenK.AllK
import Wide.FinOn
import KE.KAnyBase
import KE.KEqDeep
import PySem.Challenge.RW_ty0010_01
set_option Elab.async false
set_option maxRecDepth 100000
set_option linter.unusedVariables false
set_option compiler.extract_closed false
-- TyHead
namespace Mine
open PySem PySem.W PyProof.Rows
set_option maxRecDepth 100000 in
set_option maxHeartbeats 8000000 in
open_top hd for PySem.Challenge.rw_ty0010_01
end Mine

-- TyBase
namespace Mine
open PySem PySem.W PyProof.Rows PySem.Calls PySem.Spec
theorem ofString_inj {a b : String} : (Str.ofString a = Str.ofString b) = (a = b) := by
  refine propext ⟨fun h => ?_, fun h => h ▸ rfl⟩
  rw [Str.ofString_eq_toList, Str.ofString_eq_toList] at h
  injection h with h
  have h2 : a.toList.map Char.toNat = b.toList.map Char.toNat := by injection h
  have inj : ∀ x y : Char, x.toNat = y.toNat → x = y := fun x y e => by
    apply Char.ext
    exact UInt32.toNat_inj.mp e
  have h3 : a.toList = b.toList := by
    generalize a.toList = l at h2
    generalize b.toList = r at h2
    induction l generalizing r with
    | nil => cases r with
      | nil => rfl
      | cons => cases h2
    | cons x l ih => cases r with
      | nil => cases h2
      | cons y r =>
        simp only [List.map_cons, List.cons.injEq] at h2
        rw [inj _ _ h2.1, ih _ h2.2]
  exact String.toList_inj.mp h3

noncomputable abbrev PV : Program := hd.view_39
noncomputable abbrev Pr : Program := PySem.Challenge.rw_ty0010_01.row.prog
noncomputable abbrev KF (w : World) : Frag := hd.heap_39 w.params
noncomputable abbrev Loose : List Str := looseW hd.view_39 [Str.ofString "COMPILER_FLAG_NAMES"]

structure Kn (w : World) (h : Heap) : Prop where
  k : (KF w).In h
  t : ∃ mg mb, TopRead PV Loose mg mb h
theorem Kn.keeps {w : World} {h h' : Heap} (k : Kn w h) (st : ∀ b o, h.get? b = some o → h'.get? b = some o) : Kn w h' :=
  ⟨k.k.keeps st, let ⟨mg, mb, t⟩ := k.t; ⟨mg, mb, t.keeps st⟩⟩

structure Cx where
  w : World
  g : Heap
  L : Addr
  gn : Array GenState
  os : OsState

structure St (C : Cx) (m : Str → Option Value) (led : List (Addr × Obj)) (s : Shared) : Prop where
  F : Fr C.g C.L s.heap m
  N : News C.g C.L s.heap led
  nd : (led.map (·.1)).Nodup
  kn : Kn C.w C.g
  gn : s.gens = C.gn
  os : s.os = C.os

abbrev AU (d u : Nat) : Around := { handled := none, depth := d, frames := none, guards := none, units := u }

theorem up {α : Type} {M : Model} {A : Around} {t : Sem α} {Q : α → Shared → Prop} {E : Value → Shared → Prop} {s : Shared} {d u : Nat} (h : wpAny M (AU d u) t Q E s) (hh : A.handled = none := by rfl) (hd : A.depth ≤ d := by exact Nat.le_of_ble_eq_true rfl)
    (hu : A.units ≤ u := by exact Nat.le_of_ble_eq_true rfl) : wpAny M A t Q E s := fun Γ p hΓ =>
  h Γ p ⟨hΓ.1.trans hh, Nat.le_trans hΓ.2.1 hd, fun _ e => (nomatch e), fun _ e => (nomatch e), Nat.le_trans hΓ.2.2.2.2 hu⟩

section
variable {C : Cx} {m m' : Str → Option Value} {led led' : List (Addr × Obj)} {s s' : Shared}
theorem St.sub (S : St C m led s) (h : ∀ p ∈ led', p ∈ led) (nd : (led'.map (·.1)).Nodup) : St C m led' s := ⟨S.F, fun p hp => S.N p (h p hp), nd, S.kn, S.gn, S.os⟩
theorem St.tl {p : Addr × Obj} (S : St C m (p :: led) s) : St C m led s := S.sub (fun _ h => .tail _ h) (by have := S.nd; rw [List.map_cons, List.nodup_cons] at this; exact this.2)
theorem St.snd {p q : Addr × Obj} (S : St C m (p :: q :: led) s) : St C m (p :: led) s :=
  S.sub (fun x h => by rcases List.mem_cons.mp h with rfl | h; exact .head _; exact .tail _ (.tail _ h)) (by
    have := S.nd
    simp only [List.map_cons, List.nodup_cons, List.mem_cons, not_or] at this ⊢
    exact ⟨this.1.2, this.2.2⟩)
theorem St.perm (S : St C m led s) (h : led'.Perm led) : St C m led' s := S.sub (fun p hp => h.mem_iff.mp hp) ((h.map _).nodup_iff.mpr S.nd)
theorem St.get {a : Addr} {o : Obj} (S : St C m led s) (h : (a, o) ∈ led) : s.heap.get? a = some o := (S.N _ h).1
theorem St.lt {p : Addr × Obj} (S : St C m led s) (h : p ∈ led) : p.1 < s.heap.objs.size := Heap.lt_size (S.N _ h).1
theorem St.Llt (S : St C m led s) : C.L < s.heap.objs.size := S.F.ns.lt
theorem St.in (S : St C m led s) : (KF C.w).In s.heap := S.kn.k.keeps S.F.keep
theorem St.knh (S : St C m led s) : Kn C.w s.heap := S.kn.keeps S.F.keep
theorem St.nolimit (S : St C m led s) : s.heap.NoLimit := let ⟨_, _, t⟩ := S.knh.t; t.nolimit

theorem St.toks (S : St C m led s) (tk : Nat) : St C m led { s with toks := tk } := ⟨S.F, S.N, S.nd, S.kn, S.gn, S.os⟩
/-- a new object -/
theorem St.push (S : St C m led s) (o : Obj) (hf : o.isFreed = false := by rfl) : St C m ((s.heap.objs.size, o) :: led) { s with heap := s.heap.push o } :=
  ⟨S.F.push o, S.N.push S.F o hf, by
    rw [List.map_cons, List.nodup_cons]
    refine ⟨fun hm => ?_, S.nd⟩
    obtain ⟨p, hp, e⟩ := List.mem_map.mp hm
    exact Nat.lt_irrefl _ (e ▸ S.lt hp), S.kn, S.gn, S.os⟩
/-- an object of the ledger changed -/
theorem St.upd {a : Addr} {o o' : Obj} {f : Obj → Obj} (S : St C m ((a, o) :: led) s) (e : f o = o') (hf : o'.isFreed = false := by rfl) : St C m ((a, o') :: led) { s with heap := s.heap.update a f } := by
  have nd := S.nd
  rw [List.map_cons, List.nodup_cons] at nd
  have ne : ∀ p ∈ led, p.1 ≠ a := fun p hp q => nd.1 (List.mem_map.mpr ⟨p, hp, q⟩)
  have U := news_upd (pre := []) (post := led) S.F S.N (fun _ h => nomatch h) ne e hf
  exact ⟨U.1, U.2, by rw [List.map_cons, List.nodup_cons]; exact nd, S.kn, S.gn, S.os⟩
theorem St.swap {p q : Addr × Obj} (S : St C m (p :: q :: led) s) : St C m (q :: p :: led) s := S.perm (List.Perm.swap _ _ _)
theorem St.cong {m' : Str → Option Value} (S : St C m led s) (h : ∀ y, m y = m' y) : St C m' led s := (funext h : m = m') ▸ S
end

/-- a name bound anew -/
def upd (m : Str → Option Value) (x : Str) (v : Value) : Str → Option Value := fun y => if y = x then some v else m y
def bmap : List (Str × Value) → Str → Option Value
  | [], _ => none
  | (x, v) :: r, y => if y = x then some v else bmap r y
theorem bmap_lookup : ∀ (l : List (Str × Value)) (y : Str), l.lookup y = bmap l y
  | [], _ => rfl
  | (x, v) :: r, y => by
    unfold bmap
    rw [List.lookup_cons]
    by_cases h : y = x
    · subst h; simp
    · have : (y == x) = false := beq_eq_false_iff_ne.mpr h
      simp [this, h, bmap_lookup r y]
theorem lookup_none_of_not_mem : ∀ {l : List (Str × Value)} {x : Str}, x ∉ l.map (·.1) → l.lookup x = none
  | [], _, _ => rfl
  | (x', v') :: r, x, h => by
    rw [List.map_cons, List.mem_cons, not_or] at h
    rw [List.lookup_cons]
    have : (x == x') = false := beq_eq_false_iff_ne.mpr h.1
    rw [this]; exact lookup_none_of_not_mem h.2
theorem lookup_rev : ∀ {l : List (Str × Value)} (y : Str), (l.map (·.1)).Nodup → l.reverse.lookup y = bmap l y
  | [], _, _ => rfl
  | (x, v) :: r, y, h => by
    rw [List.map_cons, List.nodup_cons] at h
    unfold bmap
    rw [List.reverse_cons, List.lookup_append, lookup_rev y h.2, ← bmap_lookup]
    by_cases e : y = x
    · subst e
      rw [lookup_none_of_not_mem h.1]; simp
    · have : (y == x) = false := beq_eq_false_iff_ne.mpr e
      simp [List.lookup, this, e]

/-- what is to hold at the end, under a short name -/
def Imp {α : Type} (Q Q0 : α → Shared → Prop) : Prop := ∀ v s', Q v s' → Q0 v s'
theorem impGen {α : Type} {M : Model} {A : Around} {t : Sem α} {Q : α → Shared → Prop} {E : Value → Shared → Prop} {s : Shared} (h : ∀ Q0 : α → Shared → Prop, Imp Q Q0 → wpAny M A t Q0 E s) : wpAny M A t Q E s := h Q fun _ _ z => z
theorem useImp {α : Type} {Q Q0 : α → Shared → Prop} {v : α} {s' : Shared} (h : Imp Q Q0) (k : Q v s') : Q0 v s' := h v s' k
/-- what a callee, or a comprehension, starts from: the ledger is hidden -/
def inner (C : Cx) (led : List (Addr × Obj)) (s : Shared) : Cx := ⟨C.w, hideAll s.heap (led.map (·.1)), s.heap.objs.size, C.gn, C.os⟩
section
variable {C : Cx} {m m' : Str → Option Value} {led led' : List (Addr × Obj)} {s s' : Shared}
/-- the library's word of it (groundX), under any frame that stands at C.L -/
theorem St.veil (S : St C m led s) (R : Result → Shared → Prop) : Fr C.g C.L (inner C led s).g m ∧ ∀ v s', LeaveK C.g C.L m (inner C led s).g R v s' → R (.ok (.ret v)) s' :=
  have X := groundX (A := { callerA with frames := some [envX (Str.ofString "") ⟨.function, [], false, false, []⟩ C.L 0 .none []] }) (R := R) (below_caller C.g) S.F S.N rfl rfl rfl
  ⟨X.1, X.2.2.2⟩
theorem St.stays (S : St C m led s) : ∀ b o, C.g.get? b = some o → (inner C led s).g.get? b = some o := (S.veil fun _ _ => True).1.keep
theorem St.back {L' : Addr} (S : St C m led s) (F : Fr (inner C led s).g L' s'.heap m') (N : News (inner C led s).g L' s'.heap led') : Fr C.g C.L s'.heap m ∧ News C.g C.L s'.heap led' :=
  (S.veil fun _ s' => Fr C.g C.L s'.heap m ∧ News C.g C.L s'.heap led').2 .none s' ⟨L', m', led', F, N, And.intro⟩
theorem St.out {gn' : Array GenState} (S : St C m led s) (S' : St { inner C led s with gn := gn' } m' led' s') : St { C with gn := gn' } m led' s' :=
  have X := S.back S'.F S'.N
  ⟨X.1, X.2, S'.nd, S.kn, S'.gn, S'.os⟩
theorem hid_none {h : Heap} {l : List Addr} {b : Addr} (e : h.get? b = none) : (hideAll h l).get? b = none :=
  Option.eq_none_iff_forall_ne_some.mpr fun o q => nomatch e.symm.trans (of_hideAll l q)
theorem St.given {h' : Heap} (S : St C m led s) (hk : ∀ b o, s.heap.get? b = some o → h'.get? b = some o) : News (inner C led s).g (inner C led s).L h' led := fun p hp =>
  ⟨hk p.1 p.2 (S.get hp), fun e => Nat.lt_irrefl p.1 (Nat.lt_of_lt_of_eq (S.lt hp) e.symm), hideAll_none _ (List.mem_map.mpr ⟨p, hp, rfl⟩)⟩
theorem inner_fr {h' : Heap} (hns : h'.Ns s.heap.objs.size m') (hk : ∀ b o, s.heap.get? b = some o → h'.get? b = some o) : Fr (inner C led s).g (inner C led s).L h' m' where
  ns := hns
  keep b o e := hk b o (of_hideAll (led.map Prod.fst) e)
  above := by show (hideAll s.heap (led.map (·.1))).objs.size ≤ s.heap.objs.size; rw [hideAll_size]; exact Nat.le_refl _
theorem St.enter {h' : Heap} {tk : Nat} (S : St C m led s) (hns : h'.Ns s.heap.objs.size m') (hk : ∀ b o, s.heap.get? b = some o → h'.get? b = some o) : St (inner C led s) m' led { s with heap := h', toks := tk } :=
  ⟨inner_fr hns hk, S.given hk, S.nd, S.kn.keeps S.stays, S.gn, S.os⟩
end
/-- a call of a plain def (no cells) -/
theorem callQ {C : Cx} {m : Str → Option Value} {led : List (Addr × Obj)} {s : Shared} {A : Around} {E : Value → Shared → Prop} {Q : Value → Shared → Prop}
    {name qual : Str} {params : Arguments} {body : List Stmt} {scope : Scope} {dV kV doc pm cdv ct oc : Value} {an od : Option Addr} {osl : Array (Option Value)} {f : Addr} {args : List Value} {binds : List (Str × Value)}
    (S : St C m led s) (ho : (KF C.w).lookup f = some ⟨oc, od, .func (fnX name qual params body scope [] dV kV doc pm an cdv ct), osl⟩) (hcd : codeIn (KF C.w) cdv qual = true) (hroom : A.depth < recursionLimit)
    (hbind : bindArgs (fnX name qual params body scope [] dV kV doc pm an cdv ct) ⟨args, []⟩ = pure binds) (hloc : ∀ y ∈ binds, scope.names.lookup y.1 = some .local)
    (hcell : ∀ x ∈ scope.names, x.2 ≠ .cell) (hco : scope.isCoroutine = false) (hgen : scope.isGenerator = false) (hk : scope.kind = .function) (hnd : decide ((binds.map (·.1)).Nodup) = true)
    (h : ∀ (C' : Cx) s', C'.w = C.w → C'.gn = C.gn → C'.os = C.os → (∀ p ∈ led, p.1 < C'.L) → (∀ b o, C.g.get? b = some o → C'.g.get? b = some o) → St C' (bmap binds) led s' →
      wpAny (model Pr C.w) (A.deeper (envX qual scope C'.L f cdv [])) (execs body (envX qual scope C'.L f cdv []))
        (fun fl s'' => ∃ m'' led'' gn'', St { C' with gn := gn'' } m'' led'' s'' ∧ (St { C with gn := gn'' } m led'' s'' → Q (match fl with | .ret v => v | _ => .none) s''))
        (fun _ _ => False) s') :
    wpAny (model Pr C.w) A (call (.ref f) args) Q E s := by
  refine wpAny_call (codeAny_call_def (fd := fnX name qual params body scope [] dV kV doc pm an cdv ct) (body := body) (binds := binds) hroom (S.in _ _ ho) rfl S.nolimit (codeRec_of S.in hcd) rfl (.of_eq hbind) hcell hloc (fun h₁ hns hk₁ => ?_) hco hgen hk)
  have hm : (fun y => binds.reverse.lookup y) = bmap binds := funext fun y => lookup_rev y (of_decide_eq_true hnd)
  exact wpAny_mono (h (inner C led s) _ rfl rfl rfl (fun p hp => S.lt hp) S.stays (S.enter (hm ▸ hns) hk₁)) (fun fl s'' ⟨_, _, _, S'', k⟩ => k (S.out S'')) fun _ _ z => z.elim

def Ret (C : Cx) (m : Str → Option Value) (Q : Value → Shared → Prop) (C' : Cx) (v : Value) (s : Shared) : Prop := ∃ m' led', St C' m' led' s ∧ (St C m led' s → Q v s)
theorem Ret.mk {C C' : Cx} {m m' : Str → Option Value} {Q : Value → Shared → Prop} {v : Value} {s : Shared} {led' : List (Addr × Obj)} (S : St C' m' led' s) (k : St C m led' s → Q v s) : Ret C m Q C' v s := ⟨m', led', S, k⟩
/-- the same, where no generator is made -/
theorem call0 {C : Cx} {m : Str → Option Value} {led : List (Addr × Obj)} {s : Shared} {A : Around} {E : Value → Shared → Prop} {Q : Value → Shared → Prop}
    {name qual : Str} {params : Arguments} {body : List Stmt} {scope : Scope} {dV kV doc pm cdv ct oc : Value} {an od : Option Addr} {osl : Array (Option Value)} {f : Addr} {args : List Value} (binds : List (Str × Value))
    (S : St C m led s) (ho : (KF C.w).lookup f = some ⟨oc, od, .func (fnX name qual params body scope [] dV kV doc pm an cdv ct), osl⟩) (hcd : codeIn (KF C.w) cdv qual = true) (hroom : A.depth < recursionLimit)
    (hbind : bindArgs (fnX name qual params body scope [] dV kV doc pm an cdv ct) ⟨args, []⟩ = pure binds) (hloc : ∀ y ∈ binds, scope.names.lookup y.1 = some .local)
    (hcell : ∀ x ∈ scope.names, x.2 ≠ .cell) (hco : scope.isCoroutine = false) (hgen : scope.isGenerator = false) (hk : scope.kind = .function) (hnd : decide ((binds.map (·.1)).Nodup) = true)
    (h : ∀ (C' : Cx) s', C'.w = C.w → (∀ p ∈ led, p.1 < C'.L) → (∀ b o, C.g.get? b = some o → C'.g.get? b = some o) → St C' (bmap binds) led s' →
      wpAny (model Pr C'.w) (A.deeper (envX qual scope C'.L f cdv [])) (execs body (envX qual scope C'.L f cdv []))
        (fun fl s'' => Ret C m Q C' (match fl with | .ret v => v | _ => .none) s'') (fun _ _ => False) s') :
    wpAny (model Pr C.w) A (call (.ref f) args) Q E s := by
  refine callQ S ho hcd hroom hbind hloc hcell hco hgen hk hnd fun C' s' hw hg ho' hlt hst S' => ?_
  refine wpAny_mono (hw ▸ h C' s' hw hlt hst S') (fun fl s'' ⟨m'', led'', S'', k⟩ => ⟨m'', led'', C'.gn, S'', fun Z => k ?_⟩) fun _ _ z => z
  rw [hg] at Z; exact Z
end Mine

-- TyRules
namespace Mine
open PySem PySem.W PyProof.Rows PySem.Calls PySem.Spec
section
variable {C : Cx} {m : Str → Option Value} {led : List (Addr × Obj)} {s : Shared} {A : Around} {E : Value → Shared → Prop} {env : Env}


theorem r_loc {M : Model} {x : Str} {pos : Pos} {v : Value} {Q : Value → Shared → Prop} (S : St C m led s) (hv : m x = some v) (k : Q v s) (hL : env.locals = C.L := by rfl)
    (hk : env.scope.kind = .function := by rfl) (hx : env.kindOf x = some .local := by kernel_rfl) (hd : (x == ("__debug__" : Str)) = false := by kernel_rfl) : wpAny M A (eval (.Name x pos) env) Q E s :=
  wpAny_Name (wpAny_loadName_local hk hx (hL ▸ S.F.ns) hv k) hd
theorem r_locn {M : Model} {x : Str} {v : Value} {Q : Value → Shared → Prop} (S : St C m led s) (hv : m x = some v) (k : Q v s) (hL : env.locals = C.L := by rfl)
    (hk : env.scope.kind = .function := by rfl) (hx : env.kindOf x = some .local := by kernel_rfl) : wpAny M A (loadName env x) Q E s :=
  wpAny_loadName_local hk hx (hL ▸ S.F.ns) hv k
theorem r_glob {M : Model} {x : Str} {pos : Pos} {v : Value} {Q : Value → Shared → Prop} (S : St C m led s) (hv : nsIn (KF C.w) mainGlobals x = some (some v)) (k : Q v s) (hG : env.globals = mainGlobals := by rfl)
    (hk : env.scope.kind = .function := by rfl) (hx : env.kindOf x = some .globalImplicit := by kernel_rfl) (hd : (x == ("__debug__" : Str)) = false := by kernel_rfl) : wpAny M A (eval (.Name x pos) env) Q E s := by
  obtain ⟨mg, mb, T⟩ := S.kn.t
  exact Name_function_global hk hx (loadGlobal_global (hG ▸ T.g.keeps S.F.keep) (mg_of S.kn.k T.g hv) k) hd
theorem r_bi {M : Model} {x : Str} {pos : Pos} {v : Value} {Q : Value → Shared → Prop} (S : St C m led s) (hv : nsIn (KF C.w) mainGlobals x = some none) (hb : bootBuiltins x = some v) (k : Q v s) (hn : x ≠ "__name__" := by decide +kernel)
    (hG : env.globals = mainGlobals := by rfl) (hB : env.builtins = builtinsNs := by rfl)
    (hk : env.scope.kind = .function := by rfl) (hx : env.kindOf x = some .globalImplicit := by kernel_rfl) (hd : (x == ("__debug__" : Str)) = false := by kernel_rfl) : wpAny M A (eval (.Name x pos) env) Q E s := by
  obtain ⟨mg, mb, T⟩ := S.kn.t
  exact Name_function_global hk hx (loadGlobal_builtin (hG ▸ T.g.keeps S.F.keep) (mg_none_of S.kn.k T.g hv) (hB ▸ T.b.keeps S.F.keep) ((T.builtins x hn).trans hb) k) hd
theorem r_store {M : Model} {x : Str} {v : Value} {Q : Unit → Shared → Prop} (S : St C m led s) (k : ∀ s', St C (upd m x v) led s' → Q () s') (hL : env.locals = C.L := by rfl)
    (hk : env.scope.kind = .function := by rfl) (hx : env.kindOf x = some .local := by kernel_rfl) : wpAny M A (storeName env x v) Q E s :=
  wpAny_storeName_local hx (hL ▸ S.F.ns) (fun h' hn hs => k _ ⟨S.F.set (hL ▸ hn) (hL ▸ hs), S.N.set (hL ▸ hs), S.nd, S.kn, S.gn, S.os⟩) (by rw [hk]; rfl)

theorem r_int {M : Model} {i : Int} {n : Nat} {pos : Pos} {Q : Value → Shared → Prop} (S : St C m led s) (k : ∀ t s', St C m led s' → Q (.int i t) s') : wpAny M A (eval (.Constant (.int i) n pos) env) Q E s :=
  wpAny_Constant_int (k _ _ (S.toks _))
theorem r_str {M : Model} {x : Str} {n : Nat} {pos : Pos} {Q : Value → Shared → Prop} (S : St C m led s) (k : ∀ t s', St C m led s' → Q (.str x t) s') : wpAny M A (eval (.Constant (.str x) n pos) env) Q E s :=
  wpAny_Constant_str (k _ _ (S.toks _))

/-- a name is read -/
abbrev AtN {M : Model} {A : Around} (x : String) {pos : Pos} {env : Env} {Q : Value → Shared → Prop} {E : Value → Shared → Prop} {s : Shared} : Prop := wpAny M A (eval (PySem.Expr.Name (Str.ofString x) pos) env) Q E s
theorem up_hit {m : Str → Option Value} {x : Str} {v : Value} : upd m x v x = some v := if_pos rfl
theorem up_skip {m : Str → Option Value} {x z : Str} {v : Value} {w : Option Value} (h : ¬ z = x) (k : m z = w) : upd m x v z = w := (if_neg h).trans k
theorem bm_hit {x : Str} {v : Value} {r : List (Str × Value)} : bmap ((x, v) :: r) x = some v := if_pos rfl
theorem bm_skip {x z : Str} {v : Value} {w : Option Value} {r : List (Str × Value)} (h : ¬ z = x) (k : bmap r z = w) : bmap ((x, v) :: r) z = w := (if_neg h).trans k
theorem ofNe {a b : String} (h : ¬ a = b) : ¬ Str.ofString a = Str.ofString b := fun e => h (by rw [ofString_inj] at e; exact e)
/-- the displayed list -/
theorem r_list {M : Model} {vs : List Value} {Q : Value → Shared → Prop} (S : St C m led s) (k : ∀ l s', St C m ((l, listOf vs.toArray 0) :: led) s' → Q (.ref l) s') (hsz : vs.length ≤ sizeLine := by size_fits) : wpAny M A (newList vs) Q E s :=
  wpAny_newObj_type (k _ _ (S.push _)) (by show vs.toArray.size ≤ sizeLine; rw [List.size_toArray]; exact hsz)
theorem r_tuple {M : Model} {vs : List Value} {Q : Value → Shared → Prop} (S : St C m led s) (k : ∀ l s', St C m ((l, { cls := .type "tuple", data := .seq vs.toArray }) :: led) s' → Q (.ref l) s') (hsz : vs.length ≤ sizeLine := by size_fits) : wpAny M A (newTuple vs) Q E s :=
  wpAny_newObj_type (k _ _ (S.push _)) (by show vs.toArray.size ≤ sizeLine; rw [List.size_toArray]; exact hsz)

-- calls of a def
/-- a call of a known def with arguments: the library's rule, the def found in the known heap -/
theorem cw_r {M : Model} {pos : Pos} {f : Addr} {e : PySem.Expr} {rest : List PySem.Expr} {Q : Value → Shared → Prop} {m₀ : Str → Option Value} {led₀ : List (Addr × Obj)} (_ : St C m₀ led₀ s) (hf : fnIn (KF C.w) f = true)
    (h : wpAny M A (spliced (backTo pos (starEach (e :: rest) env))) (fun vs s₁ => (∃ m' led', St C m' led' s₁) ∧ wpAny M A (call (.ref f) vs) Q E s₁) E s)
    (he : starEach (e :: rest) env = (false, eval e env) :: starEach rest env := by rfl) : wpAny M A (callWith pos (.ref f) [] (backTo pos (starEach (e :: rest) env)) []) Q E s := by
  unfold fnIn at hf
  split at hf
  · next ho => exact callWith_def (o := ⟨_, _, .func _, _⟩) rfl (wpAny_mono h (fun _ _ z => ⟨z.1.elim fun _ x => x.elim fun _ S' => S'.in _ _ ho, z.2⟩) fun _ _ z => z) he
  · exact nomatch hf
theorem cw_r0 {M : Model} {pos : Pos} {f : Addr} {Q : Value → Shared → Prop} {m₀ : Str → Option Value} {led₀ : List (Addr × Obj)} (S : St C m₀ led₀ s) (hf : fnIn (KF C.w) f = true)
    (h : wpAny M A (call (.ref f) []) Q E s) : wpAny M A (callWith pos (.ref f) [] (backTo pos (starEach [] env)) []) Q E s := by
  unfold fnIn at hf
  split at hf
  · next ho => exact callWith_function (o := ⟨_, _, .func _, _⟩) (PySem.evalArgs_none ⟨⟨S.in _ _ ho, rfl⟩, h⟩)
  · exact nomatch hf
end

section
variable {C : Cx} {m : Str → Option Value} {led : List (Addr × Obj)} {s : Shared} {A : Around} {E : Value → Shared → Prop} {w : World}
-- ints
theorem r_add {a b : Int} {t u : Tok} {Q : Value → Shared → Prop} (S : St C m led s) (k : ∀ t s', St C m led s' → Q (.int (a + b) t) s') : wpAny (model Pr w) A (binaryOp .Add (.int a t) (.int b u)) Q E s := PySem.P.add_int (k _ _ (S.toks _))
theorem r_iadd {a b : Int} {t u : Tok} {Q : Value → Shared → Prop} (S : St C m led s) (k : ∀ t s', St C m led s' → Q (.int (a + b) t) s') : wpAny (model Pr w) A (inplaceOp .Add (.int a t) (.int b u)) Q E s := PySem.P.iadd_int (k _ _ (S.toks _))
theorem r_sub {a b : Int} {t u : Tok} {Q : Value → Shared → Prop} (S : St C m led s) (k : ∀ t s', St C m led s' → Q (.int (a - b) t) s') : wpAny (model Pr w) A (binaryOp .Sub (.int a t) (.int b u)) Q E s := PySem.P.sub_int (k _ _ (S.toks _))
theorem r_and {a b : Int} {t u : Tok} {Q : Value → Shared → Prop} (S : St C m led s) (k : ∀ t s', St C m led s' → Q (.int (Builtin.bitAnd a b) t) s') : wpAny (model Pr w) A (binaryOp .BitAnd (.int a t) (.int b u)) Q E s := and_int (k _ _ (S.toks _))
theorem r_ixor {a b : Int} {t u : Tok} {Q : Value → Shared → Prop} (S : St C m led s) (k : ∀ t s', St C m led s' → Q (.int (Builtin.bitXor a b) t) s') : wpAny (model Pr w) A (inplaceOp .BitXor (.int a t) (.int b u)) Q E s := ixor_int (k _ _ (S.toks _))
theorem r_shl {a n : Int} {t u : Tok} {Q : Value → Shared → Prop} (c : Int) (S : St C m led s) (hn : 0 ≤ n) (hn2 : n ≤ 1000000) (ha : a.natAbs < 2 ^ 64) (hc : a * 2 ^ n.toNat = c) (k : ∀ t s', St C m led s' → Q (.int c t) s') : wpAny (model Pr w) A (binaryOp .LShift (.int a t) (.int n u)) Q E s := by
  subst hc; exact lshift_int_small hn hn2 ha (k _ _ (S.toks _))
theorem r_hex {i : Int} {t : Tok} {Q : Value → Shared → Prop} (S : St C m led s) (hi : (PySem.baseText "0x" 16 i).length ≤ sizeLine) (k : ∀ t s', St C m led s' → Q (.str (PySem.baseText "0x" 16 i) t) s') : wpAny (model Pr w) A (call (.builtin "hex") [.int i t]) Q E s :=
  PySem.P.hex_of_int (k _ _ (S.toks _)) hi

-- methods
theorem r_meth {M : Model} {T id : String} {name : Str} {a : Addr} {o : Obj} {pl : Sem Bool} {Q : Value × List Value → Shared → Prop} (ho : s.heap.get? a = some o) (hc : o.cls = .type T) (hd : o.dict = none) (pa : PlainAttrs T) (slot : Slot T name id)
    (k : Q (.builtin id, [.ref a]) s) (hty : typeOf (.builtin id) = pure (.type "method_descriptor") := by kernel_rfl) : wpAny M A (getMethod (.ref a) name pl) Q E s :=
  getMethod_builtin (T := T) ⟨o, ho, hc⟩ pa slot hty (fun b e => by cases e; exact ⟨o, ho, hd⟩) k
theorem r_append {its : Array Value} {n : Nat} {x : Value} {l : Addr} {Q : Value → Shared → Prop} (S : St C m ((l, listOf its n) :: led) s) (k : ∀ s', St C m ((l, listOf (its.push x) (n + 1)) :: led) s' → Q .none s') (hsz : its.size ≤ sizeLine) :
    wpAny (model Pr w) A (call (.builtin "list.append") [.ref l, x]) Q E s :=
  append_at (hsz := hsz) (S.get (.head _)) fun h' hs ho' => k { s with heap := h' } (by
    have nd := S.nd
    rw [List.map_cons, List.nodup_cons] at nd
    have ne : ∀ p ∈ led, p.1 ≠ l := fun p hp q => nd.1 (List.mem_map.mpr ⟨p, hp, q⟩)
    have z := S.N _ (.head _)
    exact ⟨S.F.change hs z.2.1 z.2.2, news_set (pre := []) S.N (fun _ h => nomatch h) ne hs ho', by rw [List.map_cons, List.nodup_cons]; exact nd, S.kn, S.gn, S.os⟩)
theorem St.rot2 {p q r : Addr × Obj} (S : St C m (p :: q :: r :: led) s) : St C m (r :: p :: q :: led) s := S.perm (((List.Perm.swap _ _ _).cons p).symm.trans (List.Perm.swap _ _ _)).symm
theorem St.unrot2 {p q r : Addr × Obj} (S : St C m (r :: p :: q :: led) s) : St C m (p :: q :: r :: led) s := S.perm (((List.Perm.swap _ _ _).cons p).symm.trans (List.Perm.swap _ _ _))
theorem r_append1 {its : Array Value} {n : Nat} {x : Value} {l : Addr} {p : Addr × Obj} {Q : Value → Shared → Prop} (S : St C m (p :: (l, listOf its n) :: led) s) (hsz : its.size ≤ sizeLine) (k : ∀ s', St C m (p :: (l, listOf (its.push x) (n + 1)) :: led) s' → Q .none s') :
    wpAny (model Pr w) A (call (.builtin "list.append") [.ref l, x]) Q E s := r_append S.swap (fun s' S' => k s' S'.swap) hsz
theorem r_append2 {its : Array Value} {n : Nat} {x : Value} {l : Addr} {p q : Addr × Obj} {Q : Value → Shared → Prop} (S : St C m (p :: q :: (l, listOf its n) :: led) s) (hsz : its.size ≤ sizeLine) (k : ∀ s', St C m (p :: q :: (l, listOf (its.push x) (n + 1)) :: led) s' → Q .none s') :
    wpAny (model Pr w) A (call (.builtin "list.append") [.ref l, x]) Q E s := r_append S.rot2 (fun s' S' => k s' S'.unrot2) hsz
theorem r_join {its : Array Value} {x : Str} {t : Tok} {ys : List Str} {l : Addr} {Q : Value → Shared → Prop} (S : St C m led s) (hl : s.heap.IsList l its) (hi : StrsAre its.toList ys) (hsep : x.length ≤ 16) (hw : (ys.map (·.length)).sum + ys.length ≤ 1048576)
    (k : ∀ t s', St C m led s' → Q (.str (PySem.Txt.join x ys) t) s') : wpAny (model Pr w) A (call (.builtin "str.join") [.str x t, .ref l]) Q E s :=
  join_listW hl hi hsep hw fun _ _ => k _ _ (S.toks _)
end

-- the names of the top
theorem g_tab (w : World) : nsIn (KF w) mainGlobals "COMPILER_FLAG_NAMES" = some (some (.ref 15)) := by kernel_rfl
theorem g_pf (w : World) : nsIn (KF w) mainGlobals "pretty_flags" = some (some (.ref 22)) := by kernel_rfl
theorem g_em (w : World) : nsIn (KF w) mainGlobals "_ellipsis_match" = some (some (.ref 29)) := by kernel_rfl
theorem g_gi (w : World) : nsIn (KF w) mainGlobals "_grouping_intervals" = some (some (.ref 36)) := by kernel_rfl
theorem g_nms (w : World) : nsIn (KF w) mainGlobals "_law_names" = some (some (.ref 41)) := by kernel_rfl
theorem g_ruler (w : World) : nsIn (KF w) mainGlobals "_law_ruler" = some (some (.ref 46)) := by kernel_rfl
theorem g_told (w : World) : nsIn (KF w) mainGlobals "_law_told" = some (some (.ref 53)) := by kernel_rfl
theorem g_beads (w : World) : nsIn (KF w) mainGlobals "_law_beads" = some (some (.ref 58)) := by kernel_rfl
theorem g_moves (w : World) : nsIn (KF w) mainGlobals "_law_moves" = some (some (.ref 65)) := by kernel_rfl
theorem g_left (w : World) : nsIn (KF w) mainGlobals "_law_left" = some (some (.ref 70)) := by kernel_rfl
theorem g_ways (w : World) : nsIn (KF w) mainGlobals "_law_ways" = some (some (.ref 77)) := by kernel_rfl
theorem g_count (w : World) : nsIn (KF w) mainGlobals "_law_count" = some (some (.ref 82)) := by kernel_rfl
theorem g_du (w : World) : nsIn (KF w) mainGlobals "_law_down_up" = some (some (.ref 89)) := by kernel_rfl
theorem g_ud (w : World) : nsIn (KF w) mainGlobals "_law_up_down" = some (some (.ref 96)) := by kernel_rfl
theorem g_ell (w : World) : nsIn (KF w) mainGlobals "ELLIPSIS_MARKER" = some (some (.str "..." 232)) := by kernel_rfl
theorem n_range (w : World) : nsIn (KF w) mainGlobals "range" = some none := by kernel_rfl
theorem b_range : bootBuiltins "range" = some (.type "range") := by kernel_rfl
theorem n_len (w : World) : nsIn (KF w) mainGlobals "len" = some none := by kernel_rfl
theorem b_len : bootBuiltins "len" = some (.builtin "len") := by kernel_rfl
theorem n_hex (w : World) : nsIn (KF w) mainGlobals "hex" = some none := by kernel_rfl
theorem b_hex : bootBuiltins "hex" = some (.builtin "hex") := by kernel_rfl
theorem n_sum (w : World) : nsIn (KF w) mainGlobals "sum" = some none := by kernel_rfl
theorem b_sum : bootBuiltins "sum" = some (.builtin "sum") := by kernel_rfl
theorem n_set (w : World) : nsIn (KF w) mainGlobals "set" = some none := by kernel_rfl
theorem b_set : bootBuiltins "set" = some (.type "set") := by kernel_rfl
theorem n_list (w : World) : nsIn (KF w) mainGlobals "list" = some none := by kernel_rfl
theorem b_list : bootBuiltins "list" = some (.type "list") := by kernel_rfl
theorem n_sorted (w : World) : nsIn (KF w) mainGlobals "sorted" = some none := by kernel_rfl
theorem b_sorted : bootBuiltins "sorted" = some (.builtin "sorted") := by kernel_rfl
end Mine

-- TyLoop
namespace Mine
open PySem PySem.W PyProof.Rows PySem.Calls PySem.Spec
theorem absurdE {α : Type} {M : Model} {A : Around} {t : Sem α} {Q : α → Shared → Prop} {E : Value → Shared → Prop} {s : Shared} (h : wpAny M A t Q (fun _ _ => False) s) : wpAny M A t Q E s :=
  wpAny_mono h (fun _ _ z => z) fun _ _ z => z.elim

section
variable {C : Cx} {m : Str → Option Value} {led : List (Addr × Obj)} {s : Shared} {A : Around} {E : Value → Shared → Prop} {w : World} {env : Env}

/-- an object of the ledger, changed elsewhere than by one update -/
theorem St.chg {a : Addr} {o o' : Obj} {h' : Heap} {tk : Nat} (S : St C m ((a, o) :: led) s) (hs : Heap.SameBut a s.heap h') (ho : h'.get? a = some o') : St C m ((a, o') :: led) { s with heap := h', toks := tk } := by
  have nd := S.nd
  rw [List.map_cons, List.nodup_cons] at nd
  have ne : ∀ p ∈ led, p.1 ≠ a := fun p hp q => nd.1 (List.mem_map.mpr ⟨p, hp, q⟩)
  have z := S.N (a, o) (.head _)
  exact ⟨S.F.change hs z.2.1 z.2.2, news_set (pre := []) S.N (fun _ h => nomatch h) ne hs ho, by rw [List.map_cons, List.nodup_cons]; exact nd, S.kn, S.gn, S.os⟩
/-- all but one object of the ledger kept, that one let go -/
theorem St.ext {a : Addr} {o : Obj} {h' : Heap} {tk : Nat} (S : St C m ((a, o) :: led) s) (hs : Heap.ExtBut a s.heap h') : St C m led { s with heap := h', toks := tk } := by
  have nd := S.nd
  rw [List.map_cons, List.nodup_cons] at nd
  have ne : ∀ p ∈ led, p.1 ≠ a := fun p hp q => nd.1 (List.mem_map.mpr ⟨p, hp, q⟩)
  have z := S.N (a, o) (.head _)
  refine ⟨⟨S.F.ns.extBut hs (Ne.symm z.2.1), fun b ob e => hs b ob (fun q => ?_) (S.F.keep b ob e), S.F.above⟩, fun p hp => ?_, nd.2, S.kn, S.gn, S.os⟩
  · subst q; rw [z.2.2] at e; cases e
  · have y := S.N p (.tail _ hp)
    exact ⟨hs _ _ (ne p hp) y.1, y.2⟩

theorem for_rule {target : PySem.Expr} {body orelse : List Stmt} {I : Addr} {itP : Nat → Obj → Prop} {n : Nat} {val : Nat → Value → Prop} {need : List (Addr × Obj) → Prop} {R : Result → Shared → Prop}
    (J : Nat → (Str → Option Value) → List (Addr × Obj) → Prop)
    (nxt : ∀ i m led s o Q', i < n → need led → itP i o → St C m ((I, o) :: led) s → (∀ v s' o', val i v → itP (i + 1) o' → St C m ((I, o') :: led) s' → Q' (some v) s') → wpAny (model Pr w) A (pyNext (.ref I)) Q' (fun _ _ => False) s)
    (fin : ∀ m led s o Q', need led → itP n o → St C m ((I, o) :: led) s → (∀ s', St C m led s' → Q' none s') → wpAny (model Pr w) A (pyNext (.ref I)) Q' (fun _ _ => False) s)
    (hneed : ∀ i m led, J i m led → need led)
    (hlet : ∀ (v : Value) m led i s o (Q' : Unit → Shared → Prop), itP i o → St C m ((I, o) :: led) s → Q' () s → wpAny (model Pr w) A (letOwnedTupleGo target (.ref I) v) Q' (fun _ _ => False) s)
    {o₀ : Obj} (hit₀ : itP 0 o₀) (S : St C m ((I, o₀) :: led) s) (h0 : J 0 m led)
    (turn : ∀ i v m led s o, i < n → val i v → J i m led → St C m ((I, o) :: led) s →
      wpAny (model Pr w) A (assign target env v) (fun _ s₂ => wpAny (model Pr w) A (execs body env) (fun f s' => match f with
        | .next | .cont => ∃ m' led', St C m' ((I, o) :: led') s' ∧ J (i + 1) m' led'
        | .brk => R (.ok .next) s'
        | .ret v => R (.ok (.ret v)) s') (fun _ _ => False) s₂) (fun _ _ => False) s)
    (done : ∀ m led s, J n m led → St C m led s → wpAny (model Pr w) A (execs orelse env) (fun f s' => R (.ok f) s') (fun _ _ => False) s) :
    codeAny (model Pr w) A (.forLoop target (.ref I) body orelse env) R s := by
  refine codeAny_forLoop_any (fun k s' => ∃ i m' led' o', k = n - i ∧ i ≤ n ∧ itP i o' ∧ St C m' ((I, o') :: led') s' ∧ J i m' led') ?_ (n - 0) ⟨0, m, led, o₀, rfl, Nat.zero_le _, hit₀, S, h0⟩
  rintro k s' ⟨i, m', led', o', rfl, hi, hit, S', hJ⟩
  by_cases hlt : i < n
  · refine absurdE (nxt i m' led' s' o' _ hlt (hneed _ _ _ hJ) hit S' fun v s₁ o₁ hv hit₁ S₁ => ?_)
    refine absurdE (hlet v m' led' (i + 1) s₁ o₁ _ hit₁ S₁ ?_)
    refine absurdE (wpAny_mono (turn i v m' led' s₁ o₁ hlt hv hJ S₁) (fun _ s₂ h₂ => absurdE (wpAny_mono h₂ (fun f s₃ h₃ => ?_) fun _ _ z => z)) fun _ _ z => z)
    cases f with
    | next => obtain ⟨m₃, led₃, S₃, J₃⟩ := h₃; exact ⟨n - (i + 1), by omega, i + 1, m₃, led₃, o₁, rfl, hlt, hit₁, S₃, J₃⟩
    | cont => obtain ⟨m₃, led₃, S₃, J₃⟩ := h₃; exact ⟨n - (i + 1), by omega, i + 1, m₃, led₃, o₁, rfl, hlt, hit₁, S₃, J₃⟩
    | brk => exact h₃
    | ret v => exact h₃
  · have e : i = n := by omega
    subst e
    exact absurdE (fin m' led' s' o' _ (hneed _ _ _ hJ) hit S' fun s₁ S₁ => absurdE (done m' led' s₁ hJ S₁))

abbrev rngIt (x left : Int) : Obj := { cls := .type "range_iterator", data := .fields #[rawInt x, rawInt left, rawInt 1] }
abbrev rngO (a b : Int) (t u v : Tok) : Obj := { cls := .type "range", data := .fields #[.int a t, .int b u, .int 1 v] }
theorem r_range1 {n : Int} {t : Tok} {Q : Value → Shared → Prop} (S : St C m led s) (k : ∀ r t u v s', St C m ((r, rngO 0 n t u v) :: led) s' → Q (.ref r) s') : wpAny (model Pr w) A (call (.type "range") [.int n t]) Q E s :=
  call_range_1 (k _ _ _ _ _ ((S.push _).toks _))
theorem r_range2 {a b : Int} {t u : Tok} {Q : Value → Shared → Prop} (S : St C m led s) (k : ∀ r t u v s', St C m ((r, rngO a b t u v) :: led) s' → Q (.ref r) s') : wpAny (model Pr w) A (call (.type "range") [.int a t, .int b u]) Q E s :=
  call_range_2 (k _ _ _ _ _ ((S.push _).toks _))

/-- the iterator of a range -/
theorem r_iter_range {a : Int} {n : Nat} {r : Addr} {t u v : Tok} {Q : Value → Shared → Prop} (S : St C m ((r, rngO a (a + n) t u v) :: led) s) (ha : 0 ≤ a) (hb : a + n < 2 ^ 62)
    (k : ∀ I s', St C m ((I, rngIt (a + (0 : Nat)) ((n : Int) - (0 : Nat))) :: led) s' → Q (.ref I) s') : wpAny (model Pr w) A (pyIter (.ref r)) Q E s := by
  refine wpAny_pyIter_range (a := a) (b := a + n) (c := 1) (t := t) (u := u) (v := v) (S.get (.head _)) (small_one (by omega) (by omega) (by omega) (by omega)) ?_
  have e : Builtin.Range.rangeSize a (a + n) 1 = (n : Int) := by rw [rangeSize_one]; split <;> omega
  rw [e]
  have z := (S.push (rngIt a n)).snd
  have e1 : a + ((0 : Nat) : Int) = a := by omega
  have e2 : (n : Int) - ((0 : Nat) : Int) = n := by omega
  exact k _ _ (by rw [e1, e2]; exact z)
theorem nxt_range {a : Int} {n : Nat} {I : Addr} : ∀ i m led s o (Q' : Option Value → Shared → Prop), i < n → True → o = rngIt (a + (i : Nat)) ((n : Int) - (i : Nat)) → St C m ((I, o) :: led) s →
    (∀ v s' o', (∃ t, v = .int (a + (i : Nat)) t) → o' = rngIt (a + (i + 1 : Nat)) ((n : Int) - (i + 1 : Nat)) → St C m ((I, o') :: led) s' → Q' (some v) s') → wpAny (model Pr w) A (pyNext (.ref I)) Q' (fun _ _ => False) s := by
  intro i m led s o Q' hi _ e0 S k
  subst e0
  refine wpAny_pyNext_range_item (S.get (.head _)) (by omega) fun h' hit hs => k _ _ _ ⟨_, rfl⟩ rfl (S.chg hs ?_)
  have e1 : a + ((i + 1 : Nat) : Int) = a + (i : Int) + 1 := by push_cast; omega
  have e2 : (n : Int) - ((i + 1 : Nat) : Int) = (n : Int) - (i : Int) - 1 := by push_cast; omega
  rw [e1, e2]; exact hit
theorem fin_range {a : Int} {n : Nat} {I : Addr} (hh : A.handled = none) : ∀ m led s o (Q' : Option Value → Shared → Prop), True → o = rngIt (a + (n : Nat)) ((n : Int) - (n : Nat)) → St C m ((I, o) :: led) s → (∀ s', St C m led s' → Q' none s') →
    wpAny (model Pr w) A (pyNext (.ref I)) Q' (fun _ _ => False) s := by
  intro m led s o Q' _ e0 S k
  subst e0
  exact wpAny_pyNext_range_end hh (S.get (.head _)) (by omega) fun h' hs => k _ (S.ext (tk := s.toks) hs)

/-- a for over a range -/
theorem for_range {x : Str} {px : Pos} {body orelse : List Stmt} {a : Int} {n : Nat} {r : Addr} {t u v : Tok} {Q : Flow → Shared → Prop}
    (J : Nat → (Str → Option Value) → List (Addr × Obj) → Prop) (S : St C m ((r, rngO a (a + n) t u v) :: led) s) (ha : 0 ≤ a) (hb : a + n < 2 ^ 62) (hh : A.handled = none) (h0 : J 0 m led)
    (turn : ∀ I i t o m led s, i < n → J i m led → St C (upd m x (.int (a + (i : Nat)) t)) ((I, o) :: led) s →
      wpAny (model Pr w) A (execs body env) (fun f s' => match f with
        | .next | .cont => ∃ m' led', St C m' ((I, o) :: led') s' ∧ J (i + 1) m' led'
        | .brk => Q .next s'
        | .ret v => Q (.ret v) s') (fun _ _ => False) s)
    (done : ∀ m led s, J n m led → St C m led s → wpAny (model Pr w) A (execs orelse env) Q (fun _ _ => False) s)
    (hL : env.locals = C.L := by rfl) (hk : env.scope.kind = .function := by rfl) (hx : env.kindOf x = some .local := by kernel_rfl) :
    wpAny (model Pr w) A (pyIter (.ref r)) (fun it s₂ => codeAny (model Pr w) A (.forLoop (.Name x px) it body orelse env) (fun r s' => match r with | .ok f => Q f s' | .error e => cameBackBy (model Pr w) A env E e s') s₂) E s := by
  refine r_iter_range S ha hb fun I s₁ S₁ => ?_
  refine for_rule (itP := fun i o => o = rngIt (a + (i : Nat)) ((n : Int) - (i : Nat))) (n := n) (val := fun i v => ∃ t, v = .int (a + (i : Nat)) t) (need := fun _ => True) J nxt_range (fin_range hh) (fun _ _ _ _ => trivial)
    (fun v m led i s o Q' _ _ q => wpAny_pure q) rfl S₁ h0 ?_ done
  rintro i v m led s o hi ⟨t, rfl⟩ hJ S'
  exact wpAny_assign_Name (r_store S' (fun s₂ S₂ => turn I i t o m led s₂ hi hJ S₂) hL hk hx)
end
end Mine

-- TyPf
namespace Mine
open PySem PySem.W PyProof.Rows PySem.Calls PySem.Spec
def nm10 : List String := ["OPTIMIZED", "NEWLOCALS", "VARARGS", "VARKEYWORDS", "NESTED", "GENERATOR", "NOFREE", "COROUTINE", "ITERABLE_COROUTINE", "ASYNC_GENERATOR"]
/-- the word of a place -/
def nm (i : Nat) : Str := match nm10[i]? with
  | some x => Str.ofString x
  | none => PySem.baseText "0x" 16 ((2 ^ i : Nat) : Int)

def strIn : Option Value → Option Str
  | some (.str x _) => some x
  | _ => none
theorem k15 (w : World) : ∃ es ep, (KF w).lookup 15 = some ⟨.type "dict", none, .dict es ep, #[]⟩ ∧ KeysOf (intKind Pr w) es ∧
    ((List.range 21).all fun i => match findBy Value.isInt es ((2 ^ i : Nat) : Int) with
      | some (.str x _) => decide (x = nm i) && decide (i < 10)
      | some _ => false
      | none => decide (10 ≤ i)) = true := by
  refine ⟨_, _, rfl, ?_, ?_⟩
  · intro e he
    simp only [List.mem_toArray, List.mem_cons, List.not_mem_nil, or_false] at he
    rcases he with rfl | rfl | rfl | rfl | rfl | rfl | rfl | rfl | rfl | rfl <;> exact ⟨_, by rw [show (intKind Pr w).is = Value.isInt from rfl]; exact decide_eq_true rfl, by rfl⟩
  · decide +kernel


theorem r_flag {C : Cx} {m : Str → Option Value} {led : List (Addr × Obj)} {s : Shared} {A : Around} {E : Value → Shared → Prop} {i : Nat} {t u : Tok} {Q : Value → Shared → Prop} (S : St C m led s) (hi : i < 21)
    (k : ∀ t s', St C m led s' → Q (.str (nm i) t) s') : wpAny (model Pr C.w) A (call (.builtin "dict.get") [.ref 15, .int ((2 ^ i : Nat) : Int) t, .str (PySem.baseText "0x" 16 ((2 ^ i : Nat) : Int)) u]) Q E s := by
  obtain ⟨es, ep, hl, hk, ha⟩ := k15 C.w
  have hm : s.heap.MapOf (intKind Pr C.w) 15 (findBy Value.isInt es) := ⟨_, es, ep, S.in _ _ hl, ⟨rfl, rfl, rfl⟩, rfl, hk, fun _ => rfl⟩
  refine call_meetsIn PySem.F.slot_dict_get hm.typeIs PySem.F.entry_dict_get (PySem.F.args_dict_get_3 _ _ _) (meets_dict_get_default (intKind Pr C.w) 15 (k := ((2 ^ i : Nat) : Int)) (intKind_is _ _ _ _) (by decide) _) ⟨_, hm, ?_⟩
  have z := List.all_eq_true.mp ha i (List.mem_range.mpr hi)
  split at z
  · rename_i x t' e
    have z1 := of_decide_eq_true (Bool.and_eq_true_iff.mp z).1
    subst z1
    rw [e]
    exact k _ _ (S.toks _)
  · cases z
  · rename_i e
    rw [e]
    have z1 := of_decide_eq_true z
    have : nm i = PySem.baseText "0x" 16 ((2 ^ i : Nat) : Int) := by
      unfold nm
      rw [List.getElem?_eq_none (by exact z1)]
    rw [this] at k
    exact k _ _ (S.toks _)

def bitsBelow (N i : Nat) : List Nat := (List.range i).filter N.testBit
def bitsOf (N : Nat) : List Nat := bitsBelow N 21
def sepT : Str := Str.ofString ", "
/-- the text of a row of beads -/
def T (bs : List Nat) : Str := PySem.Txt.join sepT (bs.map nm)


local macro_rules | `(tactic| walk_at "lk") => `(tactic| first
  | (with_reducible exact up_hit)
  | (with_reducible exact bm_hit)
  | ((with_reducible refine up_skip (ofNe (by decide)) ?_); walk_at "lk")
  | ((with_reducible refine bm_skip (ofNe (by decide)) ?_); walk_at "lk")
  | assumption
  | (simp only [upd, bmap, ofString_inj, String.reduceEq, reduceIte]; first | done | rfl | assumption))
local macro_rules | `(tactic| walk_at "mem") => `(tactic| first | exact List.Mem.head _ | assumption | (refine List.Mem.tail _ ?_; walk_at "mem") | (refine List.mem_append_right _ ?_; walk_at "mem"))
local macro_rules | `(tactic| walk_at "go meth") => `(tactic| first
  | ((with_reducible show wpAny _ _ (getMethod (Value.ref _) (Str.ofString "append") _) _ _ _); (refine r_meth (St.get (by assumption) (by walk_at "mem")) rfl rfl PySem.F.plainAttrs_list slot_list_append ?_))
  | ((with_reducible show wpAny _ _ (getMethod (Value.ref _) (Str.ofString "index") _) _ _ _); (refine r_meth (St.get (by assumption) (by walk_at "mem")) rfl rfl PySem.F.plainAttrs_list PySem.F.slot_list_index ?_))
  | (with_reducible refine PySem.GM.join ?_)
  | (with_reducible refine PySem.GM.split ?_)
  | (with_reducible refine PySem.GM.find ?_))
-- one step of the walk by my rules
local macro_rules | `(tactic| walk_at "go name") => `(tactic| first
  | (with_reducible refine r_glob (by assumption) (by first | apply g_tab | apply g_pf | apply g_em | apply g_gi | apply g_nms | apply g_ruler | apply g_told | apply g_beads | apply g_moves | apply g_left | apply g_ways | apply g_count | apply g_du | apply g_ud | apply g_ell) ?_)
  | (with_reducible refine r_bi (by assumption) (by first | apply n_range | apply n_len | apply n_hex | apply n_sum | apply n_set | apply n_list | apply n_sorted) (by first | apply b_range | apply b_len | apply b_hex | apply b_sum | apply b_set | apply b_list | apply b_sorted) ?_)
  | (with_reducible refine r_loc (by assumption) (by walk_at "lk") ?_))
local macro_rules | `(tactic| walk_at "go") => `(tactic| first
  | (with_reducible refine wpAny_execs_cons ?_)
  | (with_reducible refine wpAny_execs_nil ?_)
  | ((with_reducible show wpAny _ _ (exec (Stmt.Assign [PySem.Expr.Name _ _] _ _) _) _ _ _); refine wpAny_Assign_Name ?_)
  | (with_reducible refine wpAny_If ?_)
  | ((with_reducible show wpAny _ _ (exec (Stmt.Expr _ _) _) _ _ _); refine wpAny_Expr ?_)
  | (with_reducible refine wpAny_AugAssign_Name ?_)
  | (with_reducible refine wpAny_Return_some ?_)
  | (with_reducible refine wpAny_Break ?_)
  | ((with_reducible show wpAny _ _ (eval (PySem.Expr.Name _ _) _) _ _ _); walk_at "go name")
  | ((with_reducible show wpAny _ _ (loadName _ _) _ _ _); (with_reducible refine r_locn (by assumption) (by walk_at "lk") ?_))
  | ((with_reducible show wpAny _ _ (storeName _ _ _) _ _ _); (with_reducible refine r_store (by assumption) ?_); intro _ _)
  | ((with_reducible refine r_int (by assumption) ?_); intro _ _ _)
  | ((with_reducible refine r_str (by assumption) ?_); intro _ _ _)
  | (with_reducible refine PyProof.Rows.Constant_bool ?_)
  | (with_reducible refine wpAny_BinOp ?_)
  | ((with_reducible show wpAny _ _ (eval (PySem.Expr.List _ _) _) _ _ _); (with_reducible refine List_ ?_))
  | ((with_reducible show wpAny _ _ (newList _) _ _ _); (refine r_list (by assumption) ?_); intro _ _ _)
  | ((with_reducible show wpAny _ _ (eval (PySem.Expr.Call (PySem.Expr.Attribute _ _ _) _ _ _) _) _ _ _); refine MethodCall_ ?_)
  | ((with_reducible show wpAny _ _ (eval (PySem.Expr.Call (PySem.Expr.Name _ _) _ _ _) _) _ _ _); refine PyProof.Rows.Call_ ?_)
  | ((with_reducible show wpAny _ _ (callWith _ (Value.builtin _) _ _ _) _ _ _); first | (with_reducible refine PyProof.Rows.callWith_method0 ?_) | refine PyProof.Rows.callWith_method1 ?_)
  | ((with_reducible show wpAny _ _ (callWith _ (Value.type _) _ _ _) _ _ _); refine PySem.Pv.callWith_type1 ?_)
  | ((with_reducible show wpAny _ _ (spliced _) _ _ _); first | (with_reducible refine PyProof.Rows.args_nil ?_) | refine PyProof.Rows.args_cons ?_)
  | ((with_reducible refine r_add (by assumption) ?_); intro _ _ _)
  | ((with_reducible refine r_sub (by assumption) ?_); intro _ _ _)
  | ((with_reducible refine r_and (by assumption) ?_); intro _ _ _)
  | ((with_reducible refine r_ixor (by assumption) ?_); intro _ _ _)
  | ((with_reducible refine r_iadd (by assumption) ?_); intro _ _ _)
  | ((with_reducible refine r_range1 (by assumption) ?_); intro _ _ _ _ _ _)
  | ((with_reducible refine r_range2 (by assumption) ?_); intro _ _ _ _ _ _)
  | (with_reducible refine PySem.P.truthy_int ?_)
  | ((with_reducible show wpAny _ _ (isTrue (PySem.Expr.UnaryOp PySem.UnaryOp.Not _ _) _ _) _ _ _); (with_reducible refine isTrue_not ?_))
  | ((with_reducible show wpAny _ _ (isTrue (PySem.Expr.BinOp _ _ _ _) _ _) _ _ _); refine isTrue_plain ?_)
  | ((with_reducible show wpAny _ _ (isTrue (PySem.Expr.Name _ _) _ _) _ _ _); refine isTrue_plain ?_)
  | ((with_reducible show wpAny _ _ (isTrue (PySem.Expr.Call _ _ _ _) _ _) _ _ _); refine isTrue_plain ?_)
  | ((with_reducible show wpAny _ _ (exec (Stmt.For _ _ _ _ _) _) _ _ _); refine wpAny_For ?_)
  | ((with_reducible show wpAny _ _ (getMethod _ _ _) _ _ _); walk_at "go meth")
  | ((with_reducible show wpAny _ _ (isTrue (PySem.Expr.Compare _ [_] [_] _) _ _) _ _ _); refine wpAny_isTrue_Compare1 ?_)
  | ((with_reducible show wpAny _ _ (eval (PySem.Expr.Compare _ [_] [_] _) _) _ _ _); refine wpAny_Compare1 ?_)
  | (with_reducible refine PySem.P.lt_int ?_)
  | (with_reducible refine PySem.P.le_int ?_)
  | (with_reducible refine PySem.P.gt_int ?_)
  | (with_reducible refine PySem.P.ge_int ?_)
  | (with_reducible refine PySem.P.eq_int ?_)
  | (with_reducible refine PySem.P.ne_int ?_)
  | (with_reducible refine PySem.P.notIn_str ?_)
  | (with_reducible refine wpAny_truthy_bool ?_)
  | (with_reducible refine wpAny_IfExp ?_)
  | (with_reducible refine wpAny_UnaryOp ?_)
  | ((with_reducible refine r_neg (by assumption) ?_); intro _ _ _)
  | (with_reducible refine Subscript_ ?_)
  | ((with_reducible show wpAny _ _ (exec (Stmt.Assert _ _ _) _) _ _ _); refine wpAny_Assert rfl ?_)
  | ((with_reducible show wpAny _ _ (eval (PySem.Expr.Tuple _ _ _) _) _ _ _); (with_reducible refine Tuple_ ?_))
  | ((with_reducible show wpAny _ _ (newTuple _) _ _ _); (refine r_tuple (by assumption) ?_); intro _ _ _)
  | ((with_reducible show wpAny _ _ (callWith _ (Value.ref _) _ _ _) _ _ _); first | (with_reducible refine cw_r0 (by assumption) (by kernel_rfl) ?_) | refine cw_r (by assumption) (by kernel_rfl) ?_)
  | ((with_reducible show _ ∧ wpAny _ _ (call _ _) _ _ _); refine ⟨⟨_, _, by assumption⟩, ?_⟩)
  | (with_reducible refine useImp (by assumption) ?_)
  | dsimp only [List.cons_append, List.nil_append])
def lowc (N i : Nat) : Nat := N / 2 ^ i * 2 ^ i
theorem lowc_zero (N : Nat) : lowc N 0 = N := by simp [lowc]
theorem lowc_and (N i : Nat) : lowc N i &&& 2 ^ i = (N.testBit i).toNat * 2 ^ i := by
  have h0 : (lowc N i).testBit i = N.testBit i := by
    unfold lowc
    rw [Nat.testBit_mul_two_pow, Nat.testBit_div_two_pow]; simp
  cases hb : N.testBit i with
  | false =>
    simp only [Bool.toNat_false, Nat.zero_mul]
    apply Nat.eq_of_testBit_eq
    intro j
    rw [Nat.testBit_and, Nat.testBit_two_pow, Nat.zero_testBit]
    by_cases h : i = j
    · subst h; rw [h0, hb]; rfl
    · simp [h]
  | true =>
    simp only [Bool.toNat_true, Nat.one_mul]
    apply Nat.eq_of_testBit_eq
    intro j
    rw [Nat.testBit_and, Nat.testBit_two_pow]
    by_cases h : i = j
    · subst h; rw [h0, hb]; simp
    · simp [h]
theorem lowc_succ (N i : Nat) : lowc N (i + 1) = lowc N i - (N.testBit i).toNat * 2 ^ i := by
  unfold lowc
  have h1 : N / 2 ^ (i + 1) = N / 2 ^ i / 2 := by rw [Nat.pow_succ, Nat.div_div_eq_div_mul]
  have h2 : (N.testBit i).toNat = N / 2 ^ i % 2 := by
    rw [Nat.toNat_testBit]
  rw [h1, h2]
  generalize N / 2 ^ i = q
  have h3 : 2 ^ (i + 1) = 2 * 2 ^ i := by rw [Nat.pow_succ, Nat.mul_comm]
  rw [h3, ← Nat.sub_mul, ← Nat.mul_assoc]
  congr 1
  omega
theorem lowc_ge {N i : Nat} (h : lowc N i ≠ 0) : 2 ^ i ≤ N := by
  unfold lowc at h
  apply Nat.le_of_not_lt
  intro q
  rw [Nat.div_eq_of_lt q] at h
  simp at h
theorem lowc_end {N i : Nat} (h : lowc N (i + 1) = 0) : N < 2 ^ (i + 1) := by
  unfold lowc at h
  have hp : 0 < 2 ^ (i + 1) := Nat.two_pow_pos _
  rcases Nat.mul_eq_zero.mp h with h | h
  · exact (Nat.div_eq_zero_iff.mp h).resolve_left (by omega)
  · omega
theorem bitsBelow_succ (N i : Nat) : bitsBelow N (i + 1) = bitsBelow N i ++ (if N.testBit i then [i] else []) := by
  unfold bitsBelow
  rw [List.range_succ, List.filter_append]
  congr 1
  by_cases h : N.testBit i <;> simp [h]
theorem bitsBelow_ge {N i : Nat} (h : N < 2 ^ i) : ∀ k, bitsBelow N (i + k) = bitsBelow N i
  | 0 => rfl
  | k + 1 => by
    rw [← Nat.add_assoc, bitsBelow_succ, bitsBelow_ge h k]
    have : N.testBit (i + k) = false := Nat.testBit_lt_two_pow (Nat.lt_of_lt_of_le h (Nat.pow_le_pow_right (by decide) (Nat.le_add_right _ _)))
    simp [this]
theorem nm_len : ∀ i < 21, (nm i).length ≤ 20 := by decide +kernel
theorem hex_len : ∀ i < 21, (PySem.baseText "0x" 16 ((2 ^ i : Nat) : Int)).length ≤ 20 := by decide +kernel
theorem bitsBelow_lt {N i : Nat} : ∀ x ∈ bitsBelow N i, x < i := fun x hx => List.mem_range.mp (List.mem_filter.mp hx).1
theorem bitsBelow_len (N i : Nat) : (bitsBelow N i).length ≤ i := by
  have := List.length_filter_le N.testBit (List.range i)
  rwa [List.length_range] at this
theorem nm_sum : ∀ (bs : List Nat), (∀ x ∈ bs, x < 21) → ((bs.map nm).map (·.length)).sum ≤ 20 * bs.length
  | [], _ => by simp
  | b :: r, h => by
    have h1 := nm_len b (h b (.head _))
    have h2 := nm_sum r fun x hx => h x (.tail _ hx)
    simp only [List.map_cons, List.sum_cons, List.length_cons]
    omega
theorem strsAre_len {vs : List Value} {ys : List Str} (h : StrsAre vs ys) : vs.length = ys.length := h.length

set_option maxHeartbeats 4000000 in
theorem pf_spec {C : Cx} {m : Str → Option Value} {led : List (Addr × Obj)} {s : Shared} {Q E : Value → Shared → Prop} {N : Nat} {t : Tok} (S : St C m led s) (hN : 0 < N) (hN2 : N < 2 ^ 21)
    (k : ∀ t s', St C m led s' → Q (.str (T (bitsOf N)) t) s') : wpAny (model Pr C.w) (AU 690 4900) (call (.ref 22) [.int N t]) Q E s := by
  refine call0 [("flags", .int N t)] S (by rfl) (by kernel_rfl) (by decide) (by rfl) (locs (by rfl)) (by decide +kernel) (by rfl) (by rfl) (by rfl) (by rfl) ?_
  intro C' s' hw hlt hst S'
  refine impGen fun Q0 hQ0 => ?_
  repeat walk_at "go"
  refine for_range (a := 0) (n := 32) (fun i m' led' => ∃ ln t vs ep, m' "flags" = some (.int (lowc N i : Nat) t) ∧ m' "names" = some (.ref ln) ∧ led' = (ln, listOf vs.toArray ep) :: led ∧ StrsAre vs ((bitsBelow N i).map nm) ∧ lowc N i ≠ 0)
    (by assumption) (by decide) (by decide) rfl ⟨_, _, [], 0, by rw [lowc_zero]; walk_at "lk", by walk_at "lk", rfl, .nil, by rw [lowc_zero]; omega⟩ ?_ ?_
  · rintro I i ti oI m₅ led₅ s₅ hi ⟨ln, tf, vs, ep, hf, hn, rfl, hvs, hnz⟩ S₅
    have hi21 : i < 21 := by
      have h1 := lowc_ge hnz
      exact (Nat.pow_lt_pow_iff_right (by decide : 1 < 2)).mp (Nat.lt_of_le_of_lt h1 hN2)
    refine impGen fun Q1 hQ1 => ?_
    repeat walk_at "go"
    refine r_shl ((2 ^ i : Nat) : Int) (by assumption) (by omega) (by omega) (by decide) (by push_cast; simp) ?_
    intro _ _ _
    repeat walk_at "go"
    have e0 : Builtin.bitAnd ((lowc N i : Nat) : Int) ((2 ^ i : Nat) : Int) = (((N.testBit i).toNat * 2 ^ i : Nat) : Int) := by
      rw [PyProof.Rows.bitAnd_pp (Int.natCast_nonneg _) (Int.natCast_nonneg _)]; simp only [Int.toNat_natCast, lowc_and]
    have hp : 0 < 2 ^ i := Nat.two_pow_pos i
    have e : (Builtin.bitAnd ((lowc N i : Nat) : Int) ((2 ^ i : Nat) : Int) != 0) = N.testBit i := by
      rw [e0]
      cases hb : N.testBit i with
      | false => simp
      | true =>
        simp only [Bool.toNat_true, Nat.one_mul]
        rw [bne_iff_ne]
        exact fun q => by have := Int.ofNat.inj q; omega
    rw [e]
    have hsucc := lowc_succ N i
    cases hb : N.testBit i with
    | false =>
      rw [if_neg (by decide)]
      repeat walk_at "go"
      refine ⟨_, _, by assumption, ln, tf, vs, ep, ?_, by walk_at "lk", rfl, ?_, ?_⟩
      · rw [hsucc, hb]; simp only [Bool.toNat_false, Nat.zero_mul, Nat.sub_zero]; walk_at "lk"
      · rw [bitsBelow_succ, hb]; simpa using hvs
      · rw [hsucc, hb]; simpa using hnz
    | true =>
      rw [if_pos rfl]
      obtain ⟨es, ep15, hl15, _⟩ := k15 C'.w
      have hvl : vs.length ≤ 21 := by
        have h1 := strsAre_len hvs
        have h2 := bitsBelow_len N i
        rw [List.length_map] at h1
        omega
      repeat walk_at "go"
      refine r_meth (St.in (by assumption) _ _ hl15) rfl rfl PySem.F.plainAttrs_dict PySem.F.slot_dict_get ?_
      repeat walk_at "go"
      refine r_hex (by assumption) (Nat.le_trans (hex_len i hi21) (by decide)) ?_
      intro _ _ _
      repeat walk_at "go"
      refine r_flag (by assumption) hi21 ?_
      intro tn _ _
      repeat walk_at "go"
      refine r_append1 (by assumption) (by simp [sizeLine_eq]; omega) ?_
      intro _ _
      repeat walk_at "go"
      have e2 : Builtin.bitXor ((lowc N i : Nat) : Int) ((2 ^ i : Nat) : Int) = ((lowc N (i + 1) : Nat) : Int) := by
        have h1 := lowc_ge hnz
        have h2 : 2 ^ i ≤ lowc N i := by
          unfold lowc
          have : 1 ≤ N / 2 ^ i := (Nat.le_div_iff_mul_le hp).mpr (by omega)
          exact Nat.le_mul_of_pos_left _ this
        rw [PyProof.Rows.bitXor_and, e0, hsucc, hb]
        simp only [Bool.toNat_true, Nat.one_mul]
        omega
      rw [e2]
      have hvs' : StrsAre (vs ++ [Value.str (nm i) tn]) ((bitsBelow N (i + 1)).map nm) := by
        rw [bitsBelow_succ, hb, if_pos rfl, List.map_append]
        exact hvs.append' (.cons _ _ .nil)
      by_cases hz : lowc N (i + 1) = 0
      · rw [if_pos (by rw [hz]; rfl)]
        repeat walk_at "go"
        refine r_join (ys := (bitsBelow N (i + 1)).map nm) (by assumption) ⟨_, St.get (by assumption) (by walk_at "mem"), rfl, _, rfl⟩ (by simpa using hvs') (by decide) ?_ ?_
        · have h1 := nm_sum (bitsBelow N (i + 1)) fun x hx => by have := bitsBelow_lt x hx; omega
          have h2 := bitsBelow_len N (i + 1)
          rw [List.length_map]
          omega
        · intro tj sj Sj
          have e4 : bitsOf N = bitsBelow N (i + 1) := by
            have h1 := bitsBelow_ge (lowc_end hz) (21 - (i + 1))
            unfold bitsOf
            rw [← h1]; congr 1; omega
          repeat walk_at "go"
          refine Ret.mk Sj.tl.tl fun Z => ?_
          have h3 := k tj sj Z
          unfold T at h3
          rw [e4] at h3
          exact h3
      · rw [if_neg (by simp; omega)]
        repeat walk_at "go"
        refine ⟨_, _, by assumption, ln, _, vs ++ [Value.str (nm i) tn], ep + 1, by rw [← e2]; walk_at "lk", by walk_at "lk", by simp, hvs', hz⟩
  · rintro m₅ led₅ s₅ ⟨ln, tf, vs, ep, hf, hn, rfl, hvs, hnz⟩ S₅
    have h1 := lowc_ge hnz
    exact absurd (Nat.lt_of_le_of_lt h1 hN2) (by decide)
end Mine

-- TyRules2
namespace Mine
open PySem PySem.W PyProof.Rows PySem.Calls PySem.Spec
open PySem.Builtin.Str (occurrences)
section
variable {C : Cx} {m : Str → Option Value} {led : List (Addr × Obj)} {s : Shared} {A : Around} {E : Value → Shared → Prop} {w : World} {env : Env}

/-- a new object, its place given -/
theorem St.ofN {a : Addr} {h' : Heap} {k : Nat} {o : Obj} (S : St C m led s) (ha : s.heap.objs.size ≤ a) (F : Fr C.g C.L h' m) (N : News C.g C.L h' ((a, o) :: led)) : St C m ((a, o) :: led) { s with heap := h', toks := k } where
  F := F
  N := N
  nd := List.nodup_cons.mpr ⟨fun hm => (List.mem_map.mp hm).elim fun _ ⟨hp, e⟩ => Nat.not_lt.mpr ha (Nat.lt_of_le_of_lt (Nat.le_of_eq e.symm) (S.lt hp)), S.nd⟩
  kn := S.kn
  gn := S.gn
  os := S.os
theorem St.of {h' : Heap} {k : Nat} {o : Obj} (S : St C m led s) (F : Fr C.g C.L h' m) (N : News C.g C.L h' ((s.heap.objs.size, o) :: led)) : St C m ((s.heap.objs.size, o) :: led) { s with heap := h', toks := k } :=
  S.ofN (Nat.le_refl _) F N

theorem r_neg {a : Int} {t : Tok} {Q : Value → Shared → Prop} (S : St C m led s) (k : ∀ t s', St C m led s' → Q (.int (-a) t) s') : wpAny (model Pr w) A (unaryOp .USub (.int a t)) Q E s := PySem.P.neg_int (k _ _ (S.toks _))
theorem r_truthy_str {x : Str} {t : Tok} {Q : Bool → Shared → Prop} (S : St C m led s) (hfit : x.length ≤ 2 ^ 24) (k : ∀ s', St C m led s' → Q ((x.length : Int) != 0) s') : wpAny (model Pr w) A (truthy (.str x t)) Q E s :=
  PySem.P.truthy_str (by omega) (k _ (S.toks _))
theorem r_len_str {x : Str} {t : Tok} {Q : Value → Shared → Prop} (S : St C m led s) (hfit : x.length ≤ 2 ^ 24) (k : ∀ t s', St C m led s' → Q (.int x.length t) s') : wpAny (model Pr w) A (call (.builtin "len") [.str x t]) Q E s :=
  PySem.P.len_str (by omega) (k _ _ (S.toks _))
theorem r_len_list {l : Addr} {its : Array Value} {Q : Value → Shared → Prop} (S : St C m led s) (hl : s.heap.IsList l its) (hfit : its.size ≤ 2 ^ 24) (k : ∀ t s', St C m led s' → Q (.int its.size t) s') : wpAny (model Pr w) A (call (.builtin "len") [.ref l]) Q E s :=
  call_len_list hl (by omega) (k _ _ (S.toks _))
theorem isL {l : Addr} {its : Array Value} {n : Nat} (S : St C m led s) (h : (l, listOf its n) ∈ led) : s.heap.IsList l its := ⟨_, S.get h, rfl, n, rfl⟩
theorem isLb {l : Addr} {its : Array Value} (S : St C m led s) (h : C.g.IsList l its) : s.heap.IsList l its := h.at fun o e => S.F.keep _ _ e
/-- an item -/
theorem r_item {value slice : PySem.Expr} {l : Addr} {its : Array Value} {k : Int} {t : Tok} {x : Value} {Q : Value → Shared → Prop} (hl : s.heap.IsList l its) (h0 : 0 ≤ k) (hfit : k < 2 ^ 24) (hx : its[k.toNat]? = some x) (q : Q x s)
    (hs : subscripted slice false (.ref l) (.int k t) = operate [.ref l, .int k t] (getItem (.ref l) (.int k t)) := by with_unfolding_all rfl) : wpAny (model Pr w) A (subscriptTail value slice (.ref l) (.int k t)) Q E s :=
  tail_any hl.typeIs slot_list_getitem.lookup (wpAny_getItem_list hl h0 (by omega) hx q) hs
theorem r_item_neg {value slice : PySem.Expr} {l : Addr} {its : Array Value} {k : Int} {t : Tok} {x : Value} {Q : Value → Shared → Prop} (hl : s.heap.IsList l its) (h0 : k < 0) (h1 : -(its.size : Int) ≤ k) (hfit : -(2 ^ 24) ≤ k) (hx : its[(k + its.size).toNat]? = some x) (q : Q x s)
    (hs : subscripted slice false (.ref l) (.int k t) = operate [.ref l, .int k t] (getItem (.ref l) (.int k t)) := by with_unfolding_all rfl) : wpAny (model Pr w) A (subscriptTail value slice (.ref l) (.int k t)) Q E s :=
  tail_any hl.typeIs slot_list_getitem.lookup (wpAny_getItem_list_neg hl h0 h1 (by omega) hx q) hs
theorem r_split {x y : Str} {t u : Tok} {Q : Value → Shared → Prop} (S : St C m led s) (hy : (y.length == 0) = false) (hsz : x.length ≤ 2 ^ 20)
    (k : ∀ l vs s', StrsAre vs (PySem.Txt.split x y) → St C m ((l, listOf vs.toArray 0) :: led) s' → Q (.ref l) s') : wpAny (model Pr w) A (call (.builtin "str.split") [.str x t, .str y u]) Q E s := by
  refine splitN1A S.F S.N hy (fun l h' k' e hA _ hl F' N' => ?_) (by rw [sizeLine_eq]; omega)
  exact k _ (strValues l) _ (e ▸ hA) (S.of F' N')

/-- the place found behind a start -/
def find4 (x y : Str) (i : Nat) : Int := match occurrences x y i x.length 1 with | j :: _ => (j : Int) | [] => -1
theorem gives_find4 (x y : Str) (i : Nat) (t u v z : Tok) : Gives (Builtin.«str.find» ⟨[.str x t, .str y u, .int (i : Int) v, .int (x.length : Int) z], []⟩) (.int (find4 x y i)) := by
  have e1 : PySem.fromIndex x.length (i : Int) = i := by unfold PySem.fromIndex; rw [if_neg (by omega)]; omega
  have e2 : (max 0 (if ((x.length : Nat) : Int) < 0 then (x.length : Int) + x.length else (x.length : Int))).toNat = x.length := by rw [if_neg (by omega)]; omega
  show Gives (match occurrences x y (PySem.fromIndex x.length (i : Int)) (min (max 0 (if ((x.length : Nat) : Int) < 0 then (x.length : Int) + x.length else (x.length : Int))).toNat x.length) 1 with | k :: _ => retInt k | [] => (do rule "str.find.not-found"; retInt (-1))) _
  rw [e1, e2, Nat.min_self]
  unfold find4
  cases occurrences x y i x.length 1 with
  | nil => exact .rule (.of_eq rfl)
  | cons k _ => exact .of_eq rfl
theorem r_find4 {x y : Str} {i : Nat} {t u v z : Tok} {Q : Value → Shared → Prop} (c : Int) (S : St C m led s) (hc : find4 x y i = c) (k : ∀ t s', St C m led s' → Q (.int c t) s') :
    wpAny (model Pr w) A (call (.builtin "str.find") [.str x t, .str y u, .int (i : Int) v, .int (x.length : Int) z]) Q E s := by
  subst hc
  exact call_meets PySem.F.slot_str_find (typeIs_str _ _ _) PySem.F.entry_str_find (PySem.F.args_str_find_4 _ _ _ _) (gives_find4 x y i t u v z).meets (k _ _ (S.toks _))

-- a for over a list
abbrev lstIt (l : Addr) (i : Nat) : Obj := { cls := .type "list_iterator", data := .fields #[.ref l, .int (i : Int) 0] }
theorem r_iter_list {l : Addr} {its : Array Value} {Q : Value → Shared → Prop} (S : St C m led s) (hl : s.heap.IsList l its) (k : ∀ I s', St C m ((I, lstIt l 0) :: led) s' → Q (.ref I) s') : wpAny (model Pr w) A (pyIter (.ref l)) Q E s :=
  wpAny_pyIter_list hl (k _ _ (S.push _))
def isLstIt (l : Addr) (i : Nat) (o : Obj) : Prop := o.cls = .type "list_iterator" ∧ o.data = .fields #[.ref l, .int (i : Int) 0]
theorem nxt_list {l : Addr} {its : Array Value} {need : List (Addr × Obj) → Prop} (hn : ∀ m led s, need led → St C m led s → s.heap.IsList l its) {I : Addr} : ∀ i m led s o (Q' : Option Value → Shared → Prop), i < its.size → need led → isLstIt l i o → St C m ((I, o) :: led) s →
    (∀ v s' o', its[i]? = some v → isLstIt l (i + 1) o' → St C m ((I, o') :: led) s' → Q' (some v) s') → wpAny (model Pr w) A (pyNext (.ref I)) Q' (fun _ _ => False) s := by
  intro i m led s o Q' hi hnd e0 S k
  have hx : its[i]? = some its[i] := by simp [hi]
  have hit : s.heap.IsListIter I l i := ⟨_, S.get (.head _), e0.1, e0.2⟩
  refine wpAny_pyNext_list_item hit (hn _ _ _ hnd S.tl) hx fun h' hit' hs => ?_
  obtain ⟨o', ho', hc, hd⟩ := hit'
  exact k _ _ o' hx ⟨hc, hd⟩ (S.chg (tk := s.toks) hs ho')
theorem fin_list {l : Addr} {its : Array Value} {need : List (Addr × Obj) → Prop} (hn : ∀ m led s, need led → St C m led s → s.heap.IsList l its) {I : Addr} (hh : A.handled = none) : ∀ m led s o (Q' : Option Value → Shared → Prop), need led → isLstIt l its.size o → St C m ((I, o) :: led) s → (∀ s', St C m led s' → Q' none s') →
    wpAny (model Pr w) A (pyNext (.ref I)) Q' (fun _ _ => False) s := by
  intro m led s o Q' hnd e0 S k
  have hit : s.heap.IsListIter I l its.size := ⟨_, S.get (.head _), e0.1, e0.2⟩
  exact wpAny_pyNext_list_end hh hit (hn _ _ _ hnd S.tl) (by simp) fun h' hs => k _ (S.ext (tk := s.toks) hs)
/-- a for over a list, one name -/
theorem for_list {x : Str} {px : Pos} {body orelse : List Stmt} {l : Addr} {its : Array Value} {Q : Flow → Shared → Prop}
    (need : List (Addr × Obj) → Prop) (hn : ∀ m led s, need led → St C m led s → s.heap.IsList l its)
    (J : Nat → (Str → Option Value) → List (Addr × Obj) → Prop) (S : St C m led s) (hl : s.heap.IsList l its) (hh : A.handled = none) (hneed : ∀ i m led, J i m led → need led) (h0 : J 0 m led)
    (turn : ∀ I i v o m led s, i < its.size → its[i]? = some v → J i m led → St C (upd m x v) ((I, o) :: led) s →
      wpAny (model Pr w) A (execs body env) (fun f s' => match f with
        | .next | .cont => ∃ m' led', St C m' ((I, o) :: led') s' ∧ J (i + 1) m' led'
        | .brk => Q .next s'
        | .ret v => Q (.ret v) s') (fun _ _ => False) s)
    (done : ∀ m led s, J its.size m led → St C m led s → wpAny (model Pr w) A (execs orelse env) Q (fun _ _ => False) s)
    (hL : env.locals = C.L := by rfl) (hk : env.scope.kind = .function := by rfl) (hx : env.kindOf x = some .local := by kernel_rfl) :
    wpAny (model Pr w) A (pyIter (.ref l)) (fun it s₂ => codeAny (model Pr w) A (.forLoop (.Name x px) it body orelse env) (fun r s' => match r with | .ok f => Q f s' | .error e => cameBackBy (model Pr w) A env E e s') s₂) E s := by
  refine r_iter_list S hl fun I s₁ S₁ => ?_
  refine for_rule (itP := isLstIt l) (n := its.size) (val := fun i v => its[i]? = some v) (need := need) J (nxt_list hn) (fin_list hn hh) hneed
    (fun v m led i s o Q' _ _ q => wpAny_pure q) ⟨rfl, rfl⟩ S₁ h0 ?_ done
  intro i v m led s o hi hv hJ S'
  exact wpAny_assign_Name (r_store S' (fun s₂ S₂ => turn I i v o m led s₂ hi hv hJ S₂) hL hk hx)

/-- two names at once, from a made tuple -/
theorem r_unpack2 {a b : Value} {t : Addr} {Q : List Value → Shared → Prop} (S : St C m ((t, { cls := .type "tuple", data := .seq #[a, b] }) :: led) s) (hh : A.handled = none) (k : ∀ s', St C m led s' → Q [a, b] s') : wpAny (model Pr w) A (unpackItems (.ref t) 2 none) Q E s := by
  have ht : s.heap.IsTuple t #[a, b] := ⟨_, S.get (.head _), rfl, _, rfl⟩
  refine wpAny_unpackItems_tuple (items := #[a, b]) hh ht fun h' hs => k _ ?_
  have z := S.tl
  exact ⟨⟨z.F.ns.extBut hs (Nat.ne_of_lt z.Llt), fun b o e => hs b o (Nat.ne_of_lt (Heap.lt_size (z.F.keep b o e))) (z.F.keep b o e), z.F.above⟩,
    fun p hp => ⟨hs _ _ (Nat.ne_of_lt (z.lt hp)) (z.N p hp).1, (z.N p hp).2⟩, z.nd, z.kn, z.gn, z.os⟩
theorem r_inOrder2 {M : Model} {x y : Str} {a b : Value} {Q : Unit → Shared → Prop} (h : wpAny M A (storeName env y b) (fun _ s₁ => wpAny M A (storeName env x a) (fun _ => Q ()) E s₁) E s) :
    wpAny M A (assignInOrder (List.map (fun n => bindName env n) [x, y].reverse) [a, b].reverse) Q E s := by
  show wpAny M A (do holding [a] (bindName env y b); assignInOrder [bindName env x] [a]) Q E s
  refine wpAny_bind (wpAny_holding (wpAny_bindName (wpAny_mono h (fun _ s₁ h₁ => ?_) fun _ _ z => z)))
  show wpAny M A (do holding [] (bindName env x a); assignInOrder [] []) Q E s₁
  refine wpAny_bind (wpAny_holding (wpAny_bindName (wpAny_mono h₁ (fun _ s₂ h₂ => ?_) fun _ _ z => z)))
  exact wpAny_pure h₂
end
end Mine

-- TyEm
namespace Mine
open PySem PySem.W PyProof.Rows PySem.Calls PySem.Spec
open PySem.Builtin.Str (occurrences)
local macro_rules | `(tactic| walk_at "lk") => `(tactic| first
  | (with_reducible exact up_hit)
  | (with_reducible exact bm_hit)
  | ((with_reducible refine up_skip (ofNe (by decide)) ?_); walk_at "lk")
  | ((with_reducible refine bm_skip (ofNe (by decide)) ?_); walk_at "lk")
  | assumption
  | (simp only [upd, bmap, ofString_inj, String.reduceEq, reduceIte]; first | done | rfl | assumption))
local macro_rules | `(tactic| walk_at "mem") => `(tactic| first | exact List.Mem.head _ | assumption | (refine List.Mem.tail _ ?_; walk_at "mem") | (refine List.mem_append_right _ ?_; walk_at "mem"))
local macro_rules | `(tactic| walk_at "go meth") => `(tactic| first
  | ((with_reducible show wpAny _ _ (getMethod (Value.ref _) (Str.ofString "append") _) _ _ _); (refine r_meth (St.get (by assumption) (by walk_at "mem")) rfl rfl PySem.F.plainAttrs_list slot_list_append ?_))
  | ((with_reducible show wpAny _ _ (getMethod (Value.ref _) (Str.ofString "index") _) _ _ _); (refine r_meth (St.get (by assumption) (by walk_at "mem")) rfl rfl PySem.F.plainAttrs_list PySem.F.slot_list_index ?_))
  | (with_reducible refine PySem.GM.join ?_)
  | (with_reducible refine PySem.GM.split ?_)
  | (with_reducible refine PySem.GM.find ?_))
-- one step of the walk by my rules
local macro_rules | `(tactic| walk_at "go name") => `(tactic| first
  | (with_reducible refine r_glob (by assumption) (by first | apply g_tab | apply g_pf | apply g_em | apply g_gi | apply g_nms | apply g_ruler | apply g_told | apply g_beads | apply g_moves | apply g_left | apply g_ways | apply g_count | apply g_du | apply g_ud | apply g_ell) ?_)
  | (with_reducible refine r_bi (by assumption) (by first | apply n_range | apply n_len | apply n_hex | apply n_sum | apply n_set | apply n_list | apply n_sorted) (by first | apply b_range | apply b_len | apply b_hex | apply b_sum | apply b_set | apply b_list | apply b_sorted) ?_)
  | (with_reducible refine r_loc (by assumption) (by walk_at "lk") ?_))
local macro_rules | `(tactic| walk_at "go") => `(tactic| first
  | (with_reducible refine wpAny_execs_cons ?_)
  | (with_reducible refine wpAny_execs_nil ?_)
  | ((with_reducible show wpAny _ _ (exec (Stmt.Assign [PySem.Expr.Name _ _] _ _) _) _ _ _); refine wpAny_Assign_Name ?_)
  | (with_reducible refine wpAny_If ?_)
  | ((with_reducible show wpAny _ _ (exec (Stmt.Expr _ _) _) _ _ _); refine wpAny_Expr ?_)
  | (with_reducible refine wpAny_AugAssign_Name ?_)
  | (with_reducible refine wpAny_Return_some ?_)
  | (with_reducible refine wpAny_Break ?_)
  | ((with_reducible show wpAny _ _ (eval (PySem.Expr.Name _ _) _) _ _ _); walk_at "go name")
  | ((with_reducible show wpAny _ _ (loadName _ _) _ _ _); (with_reducible refine r_locn (by assumption) (by walk_at "lk") ?_))
  | ((with_reducible show wpAny _ _ (storeName _ _ _) _ _ _); (with_reducible refine r_store (by assumption) ?_); intro _ _)
  | ((with_reducible refine r_int (by assumption) ?_); intro _ _ _)
  | ((with_reducible refine r_str (by assumption) ?_); intro _ _ _)
  | (with_reducible refine PyProof.Rows.Constant_bool ?_)
  | (with_reducible refine wpAny_BinOp ?_)
  | ((with_reducible show wpAny _ _ (eval (PySem.Expr.List _ _) _) _ _ _); (with_reducible refine List_ ?_))
  | ((with_reducible show wpAny _ _ (newList _) _ _ _); (refine r_list (by assumption) ?_); intro _ _ _)
  | ((with_reducible show wpAny _ _ (eval (PySem.Expr.Call (PySem.Expr.Attribute _ _ _) _ _ _) _) _ _ _); refine MethodCall_ ?_)
  | ((with_reducible show wpAny _ _ (eval (PySem.Expr.Call (PySem.Expr.Name _ _) _ _ _) _) _ _ _); refine PyProof.Rows.Call_ ?_)
  | ((with_reducible show wpAny _ _ (callWith _ (Value.builtin _) _ _ _) _ _ _); first | (with_reducible refine PyProof.Rows.callWith_method0 ?_) | refine PyProof.Rows.callWith_method1 ?_)
  | ((with_reducible show wpAny _ _ (callWith _ (Value.type _) _ _ _) _ _ _); refine PySem.Pv.callWith_type1 ?_)
  | ((with_reducible show wpAny _ _ (spliced _) _ _ _); first | (with_reducible refine PyProof.Rows.args_nil ?_) | refine PyProof.Rows.args_cons ?_)
  | ((with_reducible refine r_add (by assumption) ?_); intro _ _ _)
  | ((with_reducible refine r_sub (by assumption) ?_); intro _ _ _)
  | ((with_reducible refine r_and (by assumption) ?_); intro _ _ _)
  | ((with_reducible refine r_ixor (by assumption) ?_); intro _ _ _)
  | ((with_reducible refine r_iadd (by assumption) ?_); intro _ _ _)
  | ((with_reducible refine r_range1 (by assumption) ?_); intro _ _ _ _ _ _)
  | ((with_reducible refine r_range2 (by assumption) ?_); intro _ _ _ _ _ _)
  | (with_reducible refine PySem.P.truthy_int ?_)
  | ((with_reducible show wpAny _ _ (isTrue (PySem.Expr.UnaryOp PySem.UnaryOp.Not _ _) _ _) _ _ _); (with_reducible refine isTrue_not ?_))
  | ((with_reducible show wpAny _ _ (isTrue (PySem.Expr.BinOp _ _ _ _) _ _) _ _ _); refine isTrue_plain ?_)
  | ((with_reducible show wpAny _ _ (isTrue (PySem.Expr.Name _ _) _ _) _ _ _); refine isTrue_plain ?_)
  | ((with_reducible show wpAny _ _ (isTrue (PySem.Expr.Call _ _ _ _) _ _) _ _ _); refine isTrue_plain ?_)
  | ((with_reducible show wpAny _ _ (exec (Stmt.For _ _ _ _ _) _) _ _ _); refine wpAny_For ?_)
  | ((with_reducible show wpAny _ _ (getMethod _ _ _) _ _ _); walk_at "go meth")
  | ((with_reducible show wpAny _ _ (isTrue (PySem.Expr.Compare _ [_] [_] _) _ _) _ _ _); refine wpAny_isTrue_Compare1 ?_)
  | ((with_reducible show wpAny _ _ (eval (PySem.Expr.Compare _ [_] [_] _) _) _ _ _); refine wpAny_Compare1 ?_)
  | (with_reducible refine PySem.P.lt_int ?_)
  | (with_reducible refine PySem.P.le_int ?_)
  | (with_reducible refine PySem.P.gt_int ?_)
  | (with_reducible refine PySem.P.ge_int ?_)
  | (with_reducible refine PySem.P.eq_int ?_)
  | (with_reducible refine PySem.P.ne_int ?_)
  | (with_reducible refine PySem.P.notIn_str ?_)
  | (with_reducible refine wpAny_truthy_bool ?_)
  | (with_reducible refine wpAny_IfExp ?_)
  | (with_reducible refine wpAny_UnaryOp ?_)
  | ((with_reducible refine r_neg (by assumption) ?_); intro _ _ _)
  | (with_reducible refine Subscript_ ?_)
  | ((with_reducible show wpAny _ _ (exec (Stmt.Assert _ _ _) _) _ _ _); refine wpAny_Assert rfl ?_)
  | ((with_reducible show wpAny _ _ (eval (PySem.Expr.Tuple _ _ _) _) _ _ _); (with_reducible refine Tuple_ ?_))
  | ((with_reducible show wpAny _ _ (newTuple _) _ _ _); (refine r_tuple (by assumption) ?_); intro _ _ _)
  | ((with_reducible show wpAny _ _ (callWith _ (Value.ref _) _ _ _) _ _ _); first | (with_reducible refine cw_r0 (by assumption) (by kernel_rfl) ?_) | refine cw_r (by assumption) (by kernel_rfl) ?_)
  | ((with_reducible show _ ∧ wpAny _ _ (call _ _) _ _ _); refine ⟨⟨_, _, by assumption⟩, ?_⟩)
  | (with_reducible refine useImp (by assumption) ?_)
  | dsimp only [List.cons_append, List.nil_append])

def dotsT : Str := Str.ofString "..."
def emptyT : Str := Str.ofString ""
/-- the words sought one behind the other -/
def emGo (got : Str) : List Str → Nat → Bool
  | [], _ => true
  | w :: r, st => match occurrences got w st got.length 1 with
    | j :: _ => emGo got r (j + w.length)
    | [] => false

theorem emGo_cons (got w : Str) (r : List Str) (st : Nat) : emGo got (w :: r) st = match occurrences got w st got.length 1 with | j :: _ => emGo got r (j + w.length) | [] => false := rfl

set_option maxHeartbeats 4000000 in
theorem em_spec {C : Cx} {m : Str → Option Value} {led : List (Addr × Obj)} {s : Shared} {Q E : Value → Shared → Prop} {want got p q : Str} {t u : Tok} (S : St C m led s)
    (hin : (occurrences want dotsT 0 want.length 1).isEmpty = false) (hsp : PySem.Txt.split want dotsT = [emptyT, p, q, emptyT]) (hl : want.length ≤ 1000) (hg : got.length ≤ 1000)
    (k : ∀ s', St C m led s' → Q (.bool (emGo got [emptyT, p, q, emptyT] 0)) s') : wpAny (model Pr C.w) (AU 690 4900) (call (.ref 29) [.str want t, .str got u]) Q E s := by
  refine call0 [("want", .str want t), ("got", .str got u)] S (by rfl) (by kernel_rfl) (by decide) (by rfl) (locs (by rfl)) (by decide +kernel) (by rfl) (by rfl) (by rfl) (by rfl) ?_
  intro C' s' hw hlt hst S'
  refine impGen fun Q0 hQ0 => ?_
  repeat walk_at "go"
  have hin' : (occurrences want (Str.ofString "...") 0 want.length 1).isEmpty = false := hin
  rw [hin']
  rw [if_neg (by decide)]
  repeat walk_at "go"
  refine r_split (by assumption) (by decide) (by omega) ?_
  intro l vs s₂ hvs S₂
  rw [show PySem.Txt.split want (Str.ofString "...") = [emptyT, p, q, emptyT] from hsp] at hvs
  generalize hws0 : [emptyT, p, q, emptyT] = ws at hvs
  have hlen : vs.length = 4 := by rw [hvs.length, ← hws0]; rfl
  obtain ⟨t1, hv0⟩ := hvs.get 0 emptyT (by rw [← hws0]; rfl)
  obtain ⟨t4, hv3⟩ := hvs.get 3 emptyT (by rw [← hws0]; rfl)
  rw [hws0] at k
  repeat walk_at "go"
  refine r_len_list (by assumption) (isL (by assumption) (by walk_at "mem")) (by simp [hlen]) ?_
  intro _ _ _
  repeat walk_at "go"
  rw [if_pos (by simp [hlen])]
  repeat walk_at "go"
  refine Assign_Tuple_swapped (names := ["startpos", "endpos"]) ?_
  repeat walk_at "go"
  refine r_len_str (by assumption) (by omega) ?_
  intro _ _ _
  repeat walk_at "go"
  refine r_unpack2 (by assumption) rfl ?_
  intro _ _
  refine r_inOrder2 ?_
  repeat walk_at "go"
  refine r_item (isL (by assumption) (by walk_at "mem")) (by decide) (by decide) (by simpa using hv0) ?_
  repeat walk_at "go"
  refine r_truthy_str (by assumption) (by decide) ?_
  intro _ _
  rw [if_neg (by decide)]
  repeat walk_at "go"
  refine r_item_neg (isL (by assumption) (by walk_at "mem")) (by decide) (by simp [hlen]) (by decide) (by simpa [hlen] using hv3) ?_
  repeat walk_at "go"
  refine r_truthy_str (by assumption) (by decide) ?_
  intro _ _
  rw [if_neg (by decide)]
  repeat walk_at "go"
  rw [if_neg (by simp)]
  repeat walk_at "go"
  refine for_list (l := l) (its := vs.toArray) (fun led' => ∃ n, (l, listOf vs.toArray n) ∈ led') (fun m led s ⟨n, hm⟩ S => isL S hm)
    (fun i m' led' => ∃ (st : Nat) (ts tg te : Tok), m' "startpos" = some (.int st ts) ∧ m' "got" = some (.str got tg) ∧ m' "endpos" = some (.int got.length te) ∧ led' = (l, listOf vs.toArray 0) :: led ∧ emGo got ws 0 = emGo got (ws.drop i) st)
    (by assumption) (isL (by assumption) (by walk_at "mem")) rfl (by rintro i m led ⟨_, _, _, _, _, _, _, rfl, _⟩; exact ⟨0, .head _⟩)
    ⟨0, _, _, _, by walk_at "lk", by walk_at "lk", by walk_at "lk", rfl, rfl⟩ ?_ ?_
  · rintro I i v oI m₅ led₅ s₅ hi hv ⟨st, ts, tg, te, h1, h2, h3, rfl, h4⟩ S₅
    obtain ⟨y, ty, rfl, hy⟩ := hvs.item i v (by simpa using hv)
    have hdrop : ws.drop i = y :: ws.drop (i + 1) := by
      obtain ⟨hlt, hget⟩ := List.getElem?_eq_some_iff.mp hy
      rw [List.drop_eq_getElem_cons hlt, hget]
    have hyl : y.length ≤ 1000 := by
      have h5 : y ∈ PySem.Txt.split want dotsT := by rw [hsp, hws0]; exact List.mem_of_getElem? hy
      exact Nat.le_trans (part_short h5) hl
    rw [hdrop, emGo_cons] at h4
    refine impGen fun Q1 hQ1 => ?_
    repeat walk_at "go"
    cases hocc : occurrences got y st got.length 1 with
    | nil =>
      rw [hocc] at h4
      refine r_find4 (-1) (by assumption) (by unfold find4; rw [hocc]) ?_
      intro _ _ _
      repeat walk_at "go"
      rw [if_pos (by decide)]
      repeat walk_at "go"
      refine Ret.mk (St.tl (St.tl (by assumption))) fun Z => ?_
      have h5 := k _ Z
      rw [h4] at h5
      exact h5
    | cons j r =>
      rw [hocc] at h4
      refine r_find4 j (by assumption) (by unfold find4; rw [hocc]) ?_
      intro _ _ _
      repeat walk_at "go"
      rw [if_neg (by simp)]
      repeat walk_at "go"
      refine r_len_str (by assumption) (by omega) ?_
      intro _ _ _
      repeat walk_at "go"
      refine ⟨_, _, by assumption, j + y.length, _, _, _, by walk_at "lk", by walk_at "lk", by walk_at "lk", rfl, h4⟩
  · rintro m₅ led₅ s₅ ⟨st, ts, tg, te, h1, h2, h3, rfl, h4⟩ S₅
    have hdrop : ws.drop vs.toArray.size = [] := by
      have := hvs.length
      simp [this]
    rw [hdrop] at h4
    repeat walk_at "go"
    refine Ret.mk (St.tl (by assumption)) fun Z => ?_
    have h5 := k _ Z
    rw [h4] at h5
    exact h5
end Mine

-- TyRules3
namespace Mine
open PySem PySem.W PyProof.Rows PySem.Calls PySem.Spec
section
variable {C : Cx} {m : Str → Option Value} {led : List (Addr × Obj)} {s : Shared} {A : Around} {E : Value → Shared → Prop} {w : World} {env : Env}

theorem r_cat {x y : Str} {t u : Tok} {Q : Value → Shared → Prop} (S : St C m led s) (hsz : x.length + y.length ≤ sizeLine) (k : ∀ t s', St C m led s' → Q (.str (x ++ y) t) s') : wpAny (model Pr w) A (binaryOp .Add (.str x t) (.str y u)) Q E s :=
  PyProof.Rows.add_str (fun _ _ => k _ _ (S.toks _)) hsz
theorem r_mul {a b : Int} {t u : Tok} {Q : Value → Shared → Prop} (S : St C m led s) (hb : b.natAbs < 2 ^ 30) (ha : a.natAbs < 2 ^ 30) (k : ∀ t s', St C m led s' → Q (.int (a * b) t) s') : wpAny (model Pr w) A (binaryOp .Mult (.int a t) (.int b u)) Q E s :=
  PySem.P.mul_int (k _ _ (S.toks _)) (by mul_fits)
theorem r_mod {a b : Int} {t u : Tok} {Q : Value → Shared → Prop} (c : Int) (S : St C m led s) (hb : b ≠ 0) (hc : a.fmod b = c) (k : ∀ t s', St C m led s' → Q (.int c t) s') : wpAny (model Pr w) A (binaryOp .Mod (.int a t) (.int b u)) Q E s := by
  subst hc; exact PyProof.Rows.mod_int hb (k _ _ (S.toks _))
theorem r_pow {a n : Int} {t u : Tok} {Q : Value → Shared → Prop} (c : Int) (S : St C m led s) (hn : 0 ≤ n) (hn2 : n ≤ 1000000) (ha : a.natAbs < 2 ^ 64) (hc : a ^ n.toNat = c) (k : ∀ t s', St C m led s' → Q (.int c t) s') : wpAny (model Pr w) A (binaryOp .Pow (.int a t) (.int n u)) Q E s := by
  subst hc; exact pow_int_small hn hn2 ha (k _ _ (S.toks _))

theorem r_index {l : Addr} {vs : List Value} {n : Nat} {ys : List Str} {x : Str} {t : Tok} {Q : Value → Shared → Prop} (S : St C m led s) (hl : s.heap.get? l = some (listOf vs.toArray n)) (hS : StrsAre vs ys) (j : Nat) (hj : ys[j]? = some x) (hno : ∀ i, i < j → ys[i]? ≠ some x)
    (hsz : vs.length ≤ 2 ^ 20) (k : ∀ t s', St C m led s' → Q (.int (j : Int) t) s') : wpAny (model Pr w) A (call (.builtin "list.index") [.ref l, .str x t]) Q E s := by
  obtain ⟨hjl, hje⟩ := List.getElem?_eq_some_iff.mp hj
  have hlen := hS.length
  have hjv : j < vs.toArray.size := by simp; omega
  refine call_meets PySem.F.slot_list_index ⟨_, hl, rfl⟩ PySem.F.entry_list_index (PySem.F.args_list_index_2 _ _)
    (MeetsSeq.list_index l vs.toArray n (.str x t) (isStrOf x) (fun y hy => eq_isStrOf x t hS y (by simpa using hy)) j hjv (by simp at hjv; omega) ?_ ?_) ⟨hl, k _ _ (S.toks _)⟩
  · obtain ⟨u, hu⟩ := hS.get j x hj
    have : vs.toArray[j] = .str x u := by
      have h2 := (List.getElem?_eq_some_iff.mp hu).2
      simpa using h2
    rw [this]; simp [isStrOf]
  · intro i hi hij
    have hi' : i < vs.length := by simpa using hi
    obtain ⟨y, u, e1, e2⟩ := hS.item i vs[i] (by simp [hi'])
    have : vs.toArray[i] = .str y u := by simpa using e1
    rw [this]
    have h3 := hno i hij
    rw [e2] at h3
    have : y ≠ x := fun q => h3 (by rw [q])
    simp [isStrOf, this]
/-- a for over a range -/
theorem for_rangeB {x : Str} {px : Pos} {body orelse : List Stmt} {a b : Int} {n : Nat} {r : Addr} {t u v : Tok} {Q : Flow → Shared → Prop}
    (J : Nat → (Str → Option Value) → List (Addr × Obj) → Prop) (S : St C m ((r, rngO a b t u v) :: led) s) (hbn : b = a + n) (ha : 0 ≤ a) (hb : b < 2 ^ 62) (hh : A.handled = none) (h0 : J 0 m led)
    (turn : ∀ I i t o m led s, i < n → J i m led → St C (upd m x (.int (a + (i : Nat)) t)) ((I, o) :: led) s →
      wpAny (model Pr w) A (execs body env) (fun f s' => match f with
        | .next | .cont => ∃ m' led', St C m' ((I, o) :: led') s' ∧ J (i + 1) m' led'
        | .brk => Q .next s'
        | .ret v => Q (.ret v) s') (fun _ _ => False) s)
    (done : ∀ m led s, J n m led → St C m led s → wpAny (model Pr w) A (execs orelse env) Q (fun _ _ => False) s)
    (hL : env.locals = C.L := by rfl) (hk : env.scope.kind = .function := by rfl) (hx : env.kindOf x = some .local := by kernel_rfl) :
    wpAny (model Pr w) A (pyIter (.ref r)) (fun it s₂ => codeAny (model Pr w) A (.forLoop (.Name x px) it body orelse env) (fun r s' => match r with | .ok f => Q f s' | .error e => cameBackBy (model Pr w) A env E e s') s₂) E s := by
  subst hbn
  exact for_range J S ha hb hh h0 turn done hL hk hx
end
end Mine

-- TyStr
namespace Mine
open PySem PySem.W PyProof.Rows PySem.Calls PySem.Spec
open PySem.Builtin PySem.Builtin.Str
open PySem.StrLaws
abbrev tl (x : Str) : List Nat := x.cps.toList
theorem tl_len (x : Str) : (tl x).length = x.length := by show x.cps.toList.length = x.cps.size; simp
theorem tl_app (x y : Str) : tl (x ++ y) = tl x ++ tl y := by show (x.cps ++ y.cps).toList = _; simp
theorem tl_inj {x y : Str} (h : tl x = tl y) : x = y := PySem.Str.ext' (Array.toList_inj.mp h)
def joinL (sl : List Nat) : List Str → List Nat
  | [] => []
  | [w] => tl w
  | w :: w' :: r => tl w ++ (sl ++ joinL sl (w' :: r))
theorem tl_join (sep : Str) : ∀ ws, tl (PySem.Txt.join sep ws) = joinL (tl sep) ws := by
  intro ws
  show tl (glued sep ws) = _
  rw [glued_eq_join]
  induction ws with
  | nil => rfl
  | cons w r ih => cases r with
    | nil => rfl
    | cons w' r' =>
      show tl (w ++ sep ++ Str.join sep (w' :: r')) = _
      rw [tl_app, tl_app, ih, List.append_assoc]; rfl
theorem at_iff {x y : Str} (hy : 1 ≤ y.length) (i : Nat) : At x y x.length i ↔ tl y <+: (tl x).drop i := by
  unfold At
  rw [subAt_eq]
  have h1 := tl_len x
  have h2 := tl_len y
  constructor
  · rintro ⟨h, e⟩
    have e := eq_of_beq e
    rw [List.prefix_iff_eq_take, h2]; exact e.symm
  · intro h
    have hl := h.length_le
    rw [List.length_drop, h1, h2] at hl
    refine ⟨by omega, ?_⟩
    rw [beq_iff_eq]
    have := List.prefix_iff_eq_take.mp h
    rw [h2] at this
    exact this.symm
/-- no place of a free word begins the pattern -/
theorem free_not {c : Nat} {tl' w r : List Nat} (hw : c ∉ w) : ∀ k, k < w.length → ¬ (c :: tl') <+: (w ++ r).drop k := by
  intro k hk h
  rw [List.drop_append_of_le_length (Nat.le_of_lt hk), List.drop_eq_getElem_cons hk, List.cons_append, List.cons_prefix_cons] at h
  exact hw (h.1 ▸ List.getElem_mem hk)
theorem parts_join {x sep : Str} {c : Nat} {t : List Nat} (hs : tl sep = c :: t) : ∀ (ws : List Str) (a : Nat) (cuts : List Nat) (f : Nat), ws ≠ [] → (∀ w ∈ ws, c ∉ tl w) → (tl x).drop a = joinL (tl sep) ws → a ≤ x.length →
    ChainG x sep x.length a cuts f → (∀ k, f ≤ k → ¬ At x sep x.length k) → partsFrom x sep.length a cuts = ws := by
  have hsl : 1 ≤ sep.length := by rw [← tl_len, hs]; simp
  intro ws
  induction ws with
  | nil => intro a cuts f h; exact absurd rfl h
  | cons w r ih =>
    intro a cuts f _ hw hd ha hc hn
    have hx := tl_len x
    have hsub : ∀ b, strSub x a b = w ↔ ((tl x).drop a).take (b - a) = tl w := fun b => by
      rw [← strSub_toList]; exact ⟨fun e => by rw [e], fun e => tl_inj e⟩
    have hlen := congrArg List.length hd
    rw [List.length_drop, hx] at hlen
    cases r with
    | nil =>
      have hd' : (tl x).drop a = tl w := hd
      have hno : ∀ k, a ≤ k → ¬ At x sep x.length k := fun k hk h => by
        rw [at_iff hsl, hs] at h
        have e : (tl x).drop k = (tl w ++ []).drop (k - a) := by rw [List.append_nil, ← hd', List.drop_drop]; congr 1; omega
        rw [e] at h
        by_cases hlt : k - a < (tl w).length
        · exact free_not (hw w (.head _)) _ hlt h
        · rw [List.append_nil, List.drop_eq_nil_of_le (by omega)] at h
          have := h.length_le
          simp at this
      cases cuts with
      | nil =>
        show [strSub x a x.length] = [w]
        rw [(hsub _).mpr]
        rw [List.take_of_length_le (by rw [List.length_drop, hx]; exact Nat.le_refl _)]; exact hd'
      | cons d ds => exact absurd hc.2.1 (hno d hc.1)
    | cons w' r' =>
      have hd' : (tl x).drop a = tl w ++ (tl sep ++ joinL (tl sep) (w' :: r')) := hd
      have hat : At x sep x.length (a + (tl w).length) := by
        rw [at_iff hsl, ← List.drop_drop, hd', List.drop_left]
        exact List.prefix_append _ _
      have hno : ∀ k, a ≤ k → k < a + (tl w).length → ¬ At x sep x.length k := fun k hk hk2 h => by
        rw [at_iff hsl, hs] at h
        have e : (tl x).drop k = (tl w ++ (tl sep ++ joinL (tl sep) (w' :: r'))).drop (k - a) := by rw [← hd', List.drop_drop]; congr 1; omega
        rw [e] at h
        exact free_not (hw w (.head _)) _ (by omega) h
      cases cuts with
      | nil =>
        have ef : f = a := hc
        exact absurd hat (hn _ (by omega))
      | cons d ds =>
        have e : d = a + (tl w).length := by
          rcases Nat.lt_trichotomy d (a + (tl w).length) with h | h | h
          · exact absurd hc.2.1 (hno d hc.1 h)
          · exact h
          · exact absurd hat (hc.2.2.1 _ (by omega) h)
        subst e
        show strSub x a (a + (tl w).length) :: partsFrom x sep.length (a + (tl w).length + sep.length) ds = _
        have hat1 := hat.1
        rw [(hsub _).mpr (by rw [hd', Nat.add_sub_cancel_left, List.take_left]), ih _ ds f (by simp) (fun y hy => hw y (.tail _ hy)) ?_ hat1 hc.2.2.2 hn]
        rw [← List.drop_drop, ← List.drop_drop, hd', List.drop_left, ← tl_len sep, List.drop_left]
theorem split_join {sep : Str} {c : Nat} {t : List Nat} (hs : tl sep = c :: t) (hk : PySem.Builtin.Str.strKind sep = 1) {ws : List Str} (h0 : ws ≠ []) (hw : ∀ w ∈ ws, c ∉ tl w) {x : Str} (hx : tl x = joinL (tl sep) ws) : PySem.Txt.split x sep = ws := by
  have hsl : 1 ≤ sep.length := by rw [← tl_len, hs]; simp
  obtain ⟨f, hG, hn⟩ := occ_tight x sep hsl
  have key := parts_join hs ws 0 _ f h0 hw (by rw [List.drop_zero]; exact hx) (Nat.zero_le _) hG hn
  unfold PySem.Txt.split
  have hk2 : ¬ PySem.Builtin.Str.strKind x < PySem.Builtin.Str.strKind sep := by rw [hk]; unfold PySem.Builtin.Str.strKind; split <;> (try split) <;> decide
  have one : ∀ w, ws = [w] → x = w := fun w e => tl_inj (by rw [hx, e]; rfl)
  have many : ∀ w w' r, ws = w :: w' :: r → At x sep x.length (tl w).length := fun w w' r e => by
    rw [at_iff hsl, hx, e]
    show _ <+: (tl w ++ (tl sep ++ joinL (tl sep) (w' :: r))).drop (tl w).length
    rw [List.drop_left]; exact List.prefix_append _ _
  have hone : (∀ w w' r, ws = w :: w' :: r → False) → [x] = ws := fun h => by
    rcases ws with _ | ⟨w, _ | ⟨w', r⟩⟩
    · exact absurd rfl h0
    · rw [one w rfl]
    · exact (h _ _ _ rfl).elim
  split
  · rename_i hc
    rw [Bool.or_eq_true, decide_eq_true_eq, decide_eq_true_eq] at hc
    refine hone fun w w' r e => ?_
    have := (many w w' r e).1
    rcases hc with h | h
    · omega
    · exact hk2 h
  · split
    · rename_i he
      refine hone fun w w' r e => ?_
      have e0 := List.isEmpty_iff.mp he
      rw [e0] at hG
      have ef : f = 0 := hG
      exact hn _ (by omega) (many w w' r e)
    · rw [partsBetween_eq]; exact key
theorem nm_free : ∀ i < 21, (44 ∉ tl (nm i) ∧ 32 ∉ tl (nm i)) ∧ 46 ∉ tl (nm i) := by decide +kernel
theorem tl_sep : tl sepT = [44, 32] := by decide +kernel
theorem tl_dots : tl dotsT = [46, 46, 46] := by decide +kernel
def wantT (A B : Str) : Str := (((Str.ofString "..., " ++ A) ++ Str.ofString ",... ") ++ B) ++ Str.ofString ", ..."
def framedT (bs : List Nat) : Str := (sepT ++ T bs) ++ sepT
def partP (A : Str) : Str := sepT ++ A ++ Str.ofString ","
def partQ (B : Str) : Str := Str.ofString " " ++ B ++ sepT
theorem T_split {bs : List Nat} (h0 : bs ≠ []) (h : ∀ x ∈ bs, x < 21) : PySem.Txt.split (T bs) sepT = bs.map nm := by
  refine split_join tl_sep (by decide +kernel) (by simpa using h0) (fun w hw => ?_) (by unfold T; rw [tl_join])
  obtain ⟨b, hb, rfl⟩ := List.mem_map.mp hw
  exact (nm_free b (h b hb)).1.1
theorem want_tl {A B : Str} : tl (wantT A B) = joinL (tl dotsT) [emptyT, partP A, partQ B, emptyT] := by
  have e1 : tl (Str.ofString "..., ") = [46, 46, 46, 44, 32] := by decide +kernel
  have e2 : tl (Str.ofString ",... ") = [44, 46, 46, 46, 32] := by decide +kernel
  have e3 : tl (Str.ofString ", ...") = [44, 32, 46, 46, 46] := by decide +kernel
  have e4 : tl (Str.ofString ",") = [44] := by decide +kernel
  have e5 : tl (Str.ofString " ") = [32] := by decide +kernel
  have e6 : tl emptyT = [] := by decide +kernel
  unfold wantT partP partQ joinL joinL joinL joinL
  simp only [tl_app, e1, e2, e3, e4, e5, e6, tl_sep, tl_dots]
  simp
theorem want_split {p q : Nat} (hp : p < 21) (hq : q < 21) : PySem.Txt.split (wantT (nm p) (nm q)) dotsT = [emptyT, partP (nm p), partQ (nm q), emptyT] := by
  refine split_join tl_dots (by decide +kernel) (by simp) (fun w hw => ?_) want_tl
  have h1 := (nm_free p hp).2
  have h2 := (nm_free q hq).2
  have e4 : tl (Str.ofString ",") = [44] := by decide +kernel
  have e5 : tl (Str.ofString " ") = [32] := by decide +kernel
  have e6 : tl emptyT = [] := by decide +kernel
  simp only [List.mem_cons, List.not_mem_nil, or_false] at hw
  rcases hw with rfl | rfl | rfl | rfl
  · rw [e6]; simp
  · unfold partP; rw [tl_app, tl_app, tl_sep, e4]; simp only [List.mem_append, List.mem_cons, List.not_mem_nil, or_false, not_or]; exact ⟨⟨by decide, h1⟩, by decide⟩
  · unfold partQ; rw [tl_app, tl_app, tl_sep, e5]; simp only [List.mem_append, List.mem_cons, List.not_mem_nil, or_false, not_or]; exact ⟨⟨by decide, h2⟩, by decide⟩
  · rw [e6]; simp
theorem want_in {p q : Nat} (hp : p < 21) (hq : q < 21) : (occurrences (wantT (nm p) (nm q)) dotsT 0 (wantT (nm p) (nm q)).length 1).isEmpty = false := by
  rcases occ_head_from (wantT (nm p) (nm q)) dotsT 0 1 (Nat.le_refl _) with ⟨_, h⟩ | ⟨i, r, h, _⟩
  · refine absurd ?_ (h 0 (Nat.le_refl _))
    rw [at_iff (by decide +kernel), List.drop_zero, want_tl]
    have e6 : tl emptyT = [] := by decide +kernel
    unfold joinL
    rw [e6, List.nil_append]; exact List.prefix_append _ _
  · rw [h]; rfl
-- the words in their frame
def frL : List Str → List Nat
  | [] => [44, 32]
  | w :: r => 44 :: 32 :: (tl w ++ frL r)
theorem joinL_fr : ∀ ws, ws ≠ [] → [44, 32] ++ joinL [44, 32] ws ++ [44, 32] = frL ws
  | [], h => absurd rfl h
  | [w], _ => by simp [joinL, frL]
  | w :: w' :: r, _ => by
    have := joinL_fr (w' :: r) (by simp)
    unfold frL joinL
    rw [← this]; simp
theorem fr_tl {bs : List Nat} (h0 : bs ≠ []) : tl (framedT bs) = frL (bs.map nm) := by
  unfold framedT T
  rw [tl_app, tl_app, tl_join, tl_sep, joinL_fr _ (by simpa using h0)]
theorem fr_head (ws : List Str) : ∃ t, frL ws = 44 :: 32 :: t := by cases ws with
  | nil => exact ⟨[], rfl⟩
  | cons w r => exact ⟨_, rfl⟩
/-- a free word behind a comma is the whole word -/
theorem pre_word {A w t u : List Nat} (hA : 44 ∉ A) (hw : 44 ∉ w) (h : (A ++ 44 :: t) <+: (w ++ 44 :: u)) : A = w := by
  induction A generalizing w with
  | nil => cases w with
    | nil => rfl
    | cons b w => rw [List.nil_append, List.cons_append, List.cons_prefix_cons] at h; exact absurd (List.mem_cons.mpr (.inl h.1)) hw
  | cons a A ih => cases w with
    | nil => rw [List.nil_append, List.cons_append, List.cons_prefix_cons] at h; exact absurd (List.mem_cons.mpr (.inl h.1.symm)) hA
    | cons b w =>
      rw [List.cons_append, List.cons_append, List.cons_prefix_cons] at h
      rw [h.1, ih (fun q => hA (.tail _ q)) (fun q => hw (.tail _ q)) h.2]
theorem drop_fr (w : Str) (r : List Str) (n : Nat) : (frL (w :: r)).drop (n + 2) = (tl w ++ frL r).drop n := rfl
theorem drop_fr2 (w : Str) (r : List Str) (n : Nat) : (frL (w :: r)).drop (n + (tl w).length + 2) = (frL r).drop n := by
  rw [drop_fr, Nat.add_comm n, ← List.drop_drop, List.drop_left]
/-- where ", A," can stand -/
theorem fr_p {A : Str} (hA : 44 ∉ tl A) : ∀ (ws : List Str), (∀ w ∈ ws, 44 ∉ tl w ∧ 32 ∉ tl w) → ∀ k, (44 :: 32 :: (tl A ++ [44])) <+: (frL ws).drop k → ∃ l r, ws = l ++ A :: r ∧ (frL ws).drop (k + (2 + (tl A).length)) = frL r
  | [], _, k, h => by
    have := h.length_le
    simp [frL] at this; exfalso; omega
  | w :: r, hw, k, h => by
    have hw1 := (hw w (.head _)).1
    have hw2 := (hw w (.head _)).2
    obtain ⟨t, ht⟩ := fr_head r
    match k, h with
    | 0, h =>
      have h : (44 :: 32 :: (tl A ++ [44])) <+: 44 :: 32 :: (tl w ++ frL r) := h
      rw [List.cons_prefix_cons, List.cons_prefix_cons, ht] at h
      have e := tl_inj (pre_word hA hw1 h.2.2)
      subst e
      refine ⟨[], r, rfl, ?_⟩
      have := drop_fr2 A r 0
      rw [List.drop_zero] at this
      rw [← this]; congr 1; omega
    | 1, h =>
      have h : (44 :: 32 :: (tl A ++ [44])) <+: 32 :: (tl w ++ frL r) := h
      rw [List.cons_prefix_cons] at h
      exact absurd h.1 (by decide)
    | k + 2, h =>
      have h' : (44 :: 32 :: (tl A ++ [44])) <+: (tl w ++ frL r).drop k := h
      by_cases hk : k < (tl w).length
      · exact absurd h' (free_not hw1 k hk)
      · have ek : k = (tl w).length + (k - (tl w).length) := by omega
        rw [ek, ← List.drop_drop, List.drop_left] at h'
        obtain ⟨l, r', e1, e2⟩ := fr_p hA r (fun y hy => hw y (.tail _ hy)) _ h'
        refine ⟨w :: l, r', by rw [e1]; rfl, ?_⟩
        rw [← e2]
        have := drop_fr2 w r (k - (tl w).length + (2 + (tl A).length))
        rw [← this]; congr 1; omega
theorem fr_p' {A : Str} : ∀ (ws : List Str), A ∈ ws → ∃ k, (44 :: 32 :: (tl A ++ [44])) <+: (frL ws).drop k
  | w :: r, h => by
    rcases List.mem_cons.mp h with rfl | h
    · obtain ⟨t, ht⟩ := fr_head r
      refine ⟨0, ?_⟩
      show _ <+: 44 :: 32 :: (tl A ++ frL r)
      rw [List.cons_prefix_cons, List.cons_prefix_cons, ht]
      exact ⟨rfl, rfl, 32 :: t, by simp⟩
    · obtain ⟨k, hk⟩ := fr_p' r h
      exact ⟨k + (tl w).length + 2, by rw [drop_fr2]; exact hk⟩
theorem fr_q {B : Str} (hB : 44 ∉ tl B) : ∀ (ws : List Str), (∀ w ∈ ws, 44 ∉ tl w ∧ 32 ∉ tl w) → ∀ k, (32 :: (tl B ++ [44, 32])) <+: (frL ws).drop k → B ∈ ws
  | [], _, k, h => by
    have h2 := h.length_le
    match k, h with
    | 0, h =>
      have h : (32 :: (tl B ++ [44, 32])) <+: [44, 32] := h
      rw [List.cons_prefix_cons] at h
      exact absurd h.1 (by decide)
    | k + 1, h => simp [frL] at h2; omega
  | w :: r, hw, k, h => by
    have hw1 := (hw w (.head _)).1
    have hw2 := (hw w (.head _)).2
    obtain ⟨t, ht⟩ := fr_head r
    match k, h with
    | 0, h =>
      have h : (32 :: (tl B ++ [44, 32])) <+: 44 :: 32 :: (tl w ++ frL r) := h
      rw [List.cons_prefix_cons] at h
      exact absurd h.1 (by decide)
    | 1, h =>
      have h : (32 :: (tl B ++ [44, 32])) <+: 32 :: (tl w ++ frL r) := h
      rw [List.cons_prefix_cons, ht] at h
      exact List.mem_cons.mpr (.inl (tl_inj (pre_word hB hw1 h.2)))
    | k + 2, h =>
      have h' : (32 :: (tl B ++ [44, 32])) <+: (tl w ++ frL r).drop k := h
      by_cases hk : k < (tl w).length
      · exact absurd h' (free_not hw2 k hk)
      · have ek : k = (tl w).length + (k - (tl w).length) := by omega
        rw [ek, ← List.drop_drop, List.drop_left] at h'
        exact List.mem_cons.mpr (.inr (fr_q hB r (fun y hy => hw y (.tail _ hy)) _ h'))
theorem fr_q' {B : Str} : ∀ (ws : List Str), B ∈ ws → ∃ k, 1 ≤ k ∧ (32 :: (tl B ++ [44, 32])) <+: (frL ws).drop k
  | w :: r, h => by
    rcases List.mem_cons.mp h with rfl | h
    · obtain ⟨t, ht⟩ := fr_head r
      refine ⟨1, Nat.le_refl _, ?_⟩
      show _ <+: 32 :: (tl B ++ frL r)
      rw [List.cons_prefix_cons, ht]
      exact ⟨rfl, t, by simp⟩
    · obtain ⟨k, _, hk⟩ := fr_q' r h
      exact ⟨k + (tl w).length + 2, by omega, by rw [drop_fr2]; exact hk⟩
theorem occ_empty {x : Str} {st : Nat} (h : st ≤ x.length) : ∃ r, occurrences x emptyT st x.length 1 = st :: r := by
  have e0 : emptyT.length = 0 := by decide
  have h0 : At x emptyT x.length st := ⟨by rw [e0]; omega, by rw [subAt_eq, e0, List.take_zero]; decide +kernel⟩
  rcases occ_head_from x emptyT st 1 (Nat.le_refl _) with ⟨_, hn⟩ | ⟨i, r, h1, h2, h3, h4⟩
  · exact absurd h0 (hn _ (Nat.le_refl _))
  · have : i = st := by
      by_cases hh : st < i
      · exact absurd h0 (h4 st (Nat.le_refl _) hh)
      · omega
    exact ⟨r, this ▸ h1⟩
theorem partP_tl (A : Str) : tl (partP A) = 44 :: 32 :: (tl A ++ [44]) := by
  have e4 : tl (Str.ofString ",") = [44] := by decide +kernel
  unfold partP; rw [tl_app, tl_app, tl_sep, e4]; rfl
theorem partQ_tl (A : Str) : tl (partQ A) = 32 :: (tl A ++ [44, 32]) := by
  have e5 : tl (Str.ofString " ") = [32] := by decide +kernel
  unfold partQ; rw [tl_app, tl_app, tl_sep, e5]; simp
theorem emGo_tail {x : Str} {st : Nat} (h : st ≤ x.length) : emGo x [emptyT] st = true := by
  obtain ⟨r, e⟩ := occ_empty h
  unfold emGo; rw [e]; rfl
/-- found: the one word and the other one behind it -/
theorem em_words {x A B : Str} {ws : List Str} (hx : tl x = frL ws) (hA : 44 ∉ tl A) (hB : 44 ∉ tl B) (hw : ∀ w ∈ ws, 44 ∉ tl w ∧ 32 ∉ tl w) :
    emGo x [emptyT, partP A, partQ B, emptyT] 0 = true ↔ ∃ l r, ws = l ++ A :: r ∧ B ∈ r ∧ emGo x [emptyT, partP A, partQ B, emptyT] 0 = true := by
  refine ⟨fun h => ?_, fun ⟨_, _, _, _, h⟩ => h⟩
  have h0 := h
  have e0 : emptyT.length = 0 := by decide
  have lP : (partP A).length = 3 + (tl A).length := by rw [← tl_len, partP_tl]; simp; omega
  have lQ : (partQ B).length = 3 + (tl B).length := by rw [← tl_len, partQ_tl]; simp; omega
  obtain ⟨r0, e1⟩ := occ_empty (x := x) (Nat.zero_le _)
  rw [emGo_cons, e1] at h
  simp only [e0] at h
  rw [emGo_cons] at h
  rcases occ_head_from x (partP A) 0 1 (Nat.le_refl _) with ⟨e, _⟩ | ⟨i, r, e, _, h3, _⟩
  · rw [show (0 : Nat) + 0 = 0 from rfl, e] at h; cases h
  · rw [show (0 : Nat) + 0 = 0 from rfl, e] at h
    simp only at h
    rw [at_iff (by omega), hx, partP_tl] at h3
    obtain ⟨l, r', e2, e3⟩ := fr_p hA ws hw i h3
    refine ⟨l, r', e2, ?_, h0⟩
    rw [emGo_cons] at h
    rcases occ_head_from x (partQ B) (i + (partP A).length) 1 (Nat.le_refl _) with ⟨e, _⟩ | ⟨j, r2, e, h4, h5, _⟩
    · rw [e] at h; cases h
    · rw [at_iff (by omega), hx, partQ_tl] at h5
      have ej : j = (i + (2 + (tl A).length)) + (j - (i + (2 + (tl A).length))) := by omega
      rw [ej, ← List.drop_drop, e3] at h5
      exact fr_q hB r' (fun w h => hw w (by rw [e2]; simp [h])) _ h5
theorem em_words' {x A B : Str} {ws : List Str} (hx : tl x = frL ws) (hA : 44 ∉ tl A) (hB : 44 ∉ tl B) (hw : ∀ w ∈ ws, 44 ∉ tl w ∧ 32 ∉ tl w) (hin : A ∈ ws) (hall : ∀ l r, ws = l ++ A :: r → B ∈ r) :
    emGo x [emptyT, partP A, partQ B, emptyT] 0 = true := by
  have e0 : emptyT.length = 0 := by decide
  have lP : (partP A).length = 3 + (tl A).length := by rw [← tl_len, partP_tl]; simp; omega
  have lQ : (partQ B).length = 3 + (tl B).length := by rw [← tl_len, partQ_tl]; simp; omega
  obtain ⟨r0, e1⟩ := occ_empty (x := x) (Nat.zero_le _)
  rw [emGo_cons, e1]
  simp only [e0]
  rw [emGo_cons]
  rcases occ_head_from x (partP A) 0 1 (Nat.le_refl _) with ⟨_, hn⟩ | ⟨i, r, e, _, h3, _⟩
  · obtain ⟨k, hk⟩ := fr_p' ws hin
    refine absurd ?_ (hn k (Nat.zero_le _))
    rw [at_iff (by omega), hx, partP_tl]; exact hk
  · rw [show (0 : Nat) + 0 = 0 from rfl, e]
    simp only
    rw [at_iff (by omega), hx, partP_tl] at h3
    obtain ⟨l, r', e2, e3⟩ := fr_p hA ws hw i h3
    rw [emGo_cons]
    rcases occ_head_from x (partQ B) (i + (partP A).length) 1 (Nat.le_refl _) with ⟨_, hn⟩ | ⟨j, r2, e, h4, h5, _⟩
    · obtain ⟨k, h1, hk⟩ := fr_q' r' (hall l r' e2)
      refine absurd ?_ (hn (i + (2 + (tl A).length) + k) (by omega))
      rw [at_iff (by omega), hx, partQ_tl, ← List.drop_drop, e3]; exact hk
    · rw [e]
      exact emGo_tail h5.1
theorem nm_inj : ∀ i < 21, ∀ j < 21, nm i = nm j → i = j := by decide +kernel
/-- one behind the other in the row -/
theorem em_is {bs : List Nat} (h0 : bs ≠ []) (h : ∀ x ∈ bs, x < 21) (hs : bs.Pairwise (· < ·)) {p q : Nat} (hpq : p < q) (hq : q < 21) : emGo (framedT bs) [emptyT, partP (nm p), partQ (nm q), emptyT] 0 = (decide (p ∈ bs) && decide (q ∈ bs)) := by
  have hp : p < 21 := Nat.lt_trans hpq hq
  have hw : ∀ w ∈ bs.map nm, 44 ∉ tl w ∧ 32 ∉ tl w := fun w hw => by
    obtain ⟨b, hb, rfl⟩ := List.mem_map.mp hw
    exact (nm_free b (h b hb)).1
  have hA := (nm_free p hp).1.1
  have hB := (nm_free q hq).1.1
  have cut : ∀ l r, bs.map nm = l ++ nm p :: r → ∃ l' r', bs = l' ++ p :: r' ∧ r = r'.map nm := fun l r e => by
    obtain ⟨l', r1, e1, rfl, e2⟩ := List.map_eq_append_iff.mp e
    obtain ⟨b, r', e3, e4, rfl⟩ := List.map_eq_cons_iff.mp e2
    subst e3
    have : b = p := nm_inj b (h b (by rw [e1]; simp)) p hp e4
    subst this
    exact ⟨l', r', e1, rfl⟩
  rw [Bool.eq_iff_iff, Bool.and_eq_true, decide_eq_true_eq, decide_eq_true_eq]
  constructor
  · intro hh
    obtain ⟨l, r, e, hr, _⟩ := (em_words (fr_tl h0) hA hB hw).mp hh
    obtain ⟨l', r', e1, rfl⟩ := cut l r e
    obtain ⟨b, hb, e2⟩ := List.mem_map.mp hr
    have hbb : b ∈ bs := by rw [e1]; simp [hb]
    have : b = q := nm_inj b (h b hbb) q hq e2
    subst this
    exact ⟨by rw [e1]; simp, hbb⟩
  · rintro ⟨h1, h2⟩
    refine em_words' (fr_tl h0) hA hB hw (List.mem_map_of_mem h1) fun l r e => ?_
    obtain ⟨l', r', e1, rfl⟩ := cut l r e
    rw [e1] at h2 hs
    rcases List.mem_append.mp h2 with h3 | h3
    · have := (List.pairwise_append.mp hs).2.2 q h3 p (by simp)
      omega
    · rcases List.mem_cons.mp h3 with rfl | h3
      · omega
      · exact List.mem_map_of_mem h3
theorem T_len {bs : List Nat} (h : ∀ x ∈ bs, x < 21) : (T bs).length ≤ 22 * bs.length := by
  have h1 := StrLaws.join_length_le sepT (bs.map nm)
  rw [← glued_eq_join] at h1
  have h2 := nm_sum bs h
  have h3 : sepT.length = 2 := by decide
  have h4 : (T bs).length ≤ ((bs.map nm).map (·.length)).sum + (bs.map nm).length * sepT.length := h1
  rw [h3, List.length_map] at h4
  omega
theorem bitsOf_lt {N : Nat} : ∀ x ∈ bitsOf N, x < 21 := bitsBelow_lt
theorem bitsOf_len (N : Nat) : (bitsOf N).length ≤ 21 := bitsBelow_len N 21
theorem bitsOf_mem {N x : Nat} : x ∈ bitsOf N ↔ x < 21 ∧ N.testBit x = true := by unfold bitsOf bitsBelow; simp
theorem bitsOf_sorted (N : Nat) : (bitsOf N).Pairwise (· < ·) := by
  unfold bitsOf bitsBelow; exact List.Pairwise.filter _ List.pairwise_lt_range
theorem bitsOf_ne {N : Nat} (h : 0 < N) (h2 : N < 2 ^ 21) : bitsOf N ≠ [] := fun e => by
  have : N = 0 := Nat.eq_of_testBit_eq fun i => by
    rw [Nat.zero_testBit]
    cases hb : N.testBit i with
    | false => rfl
    | true =>
      by_cases hi : i < 21
      · have : i ∈ bitsOf N := bitsOf_mem.mpr ⟨hi, hb⟩
        rw [e] at this; cases this
      · have : N < 2 ^ i := Nat.lt_of_lt_of_le h2 (Nat.pow_le_pow_right (by decide) (by omega))
        rw [Nat.testBit_lt_two_pow this] at hb; cases hb
  omega
theorem TN_len (N : Nat) : (T (bitsOf N)).length ≤ 462 := by
  have h1 := T_len (bs := bitsOf N) bitsOf_lt
  have h2 := bitsOf_len N
  omega
end Mine

-- TyMoves
namespace Mine
open PySem PySem.W PyProof.Rows PySem.Calls PySem.Spec
open PySem.Builtin.Str (occurrences)
local macro_rules | `(tactic| walk_at "lk") => `(tactic| first
  | (with_reducible exact up_hit)
  | (with_reducible exact bm_hit)
  | ((with_reducible refine up_skip (ofNe (by decide)) ?_); walk_at "lk")
  | ((with_reducible refine bm_skip (ofNe (by decide)) ?_); walk_at "lk")
  | assumption
  | (simp only [upd, bmap, ofString_inj, String.reduceEq, reduceIte]; first | done | rfl | assumption))
local macro_rules | `(tactic| walk_at "mem") => `(tactic| first | exact List.Mem.head _ | assumption | (refine List.Mem.tail _ ?_; walk_at "mem") | (refine List.mem_append_right _ ?_; walk_at "mem"))
local macro_rules | `(tactic| walk_at "go meth") => `(tactic| first
  | ((with_reducible show wpAny _ _ (getMethod (Value.ref _) (Str.ofString "append") _) _ _ _); (refine r_meth (St.get (by assumption) (by walk_at "mem")) rfl rfl PySem.F.plainAttrs_list slot_list_append ?_))
  | ((with_reducible show wpAny _ _ (getMethod (Value.ref _) (Str.ofString "index") _) _ _ _); (refine r_meth (St.get (by assumption) (by walk_at "mem")) rfl rfl PySem.F.plainAttrs_list PySem.F.slot_list_index ?_))
  | (with_reducible refine PySem.GM.join ?_)
  | (with_reducible refine PySem.GM.split ?_)
  | (with_reducible refine PySem.GM.find ?_))
-- one step of the walk by my rules
local macro_rules | `(tactic| walk_at "go name") => `(tactic| first
  | (with_reducible refine r_glob (by assumption) (by first | apply g_tab | apply g_pf | apply g_em | apply g_gi | apply g_nms | apply g_ruler | apply g_told | apply g_beads | apply g_moves | apply g_left | apply g_ways | apply g_count | apply g_du | apply g_ud | apply g_ell) ?_)
  | (with_reducible refine r_bi (by assumption) (by first | apply n_range | apply n_len | apply n_hex | apply n_sum | apply n_set | apply n_list | apply n_sorted) (by first | apply b_range | apply b_len | apply b_hex | apply b_sum | apply b_set | apply b_list | apply b_sorted) ?_)
  | (with_reducible refine r_loc (by assumption) (by walk_at "lk") ?_))
local macro_rules | `(tactic| walk_at "go") => `(tactic| first
  | (with_reducible refine wpAny_execs_cons ?_)
  | (with_reducible refine wpAny_execs_nil ?_)
  | ((with_reducible show wpAny _ _ (exec (Stmt.Assign [PySem.Expr.Name _ _] _ _) _) _ _ _); refine wpAny_Assign_Name ?_)
  | (with_reducible refine wpAny_If ?_)
  | ((with_reducible show wpAny _ _ (exec (Stmt.Expr _ _) _) _ _ _); refine wpAny_Expr ?_)
  | (with_reducible refine wpAny_AugAssign_Name ?_)
  | (with_reducible refine wpAny_Return_some ?_)
  | (with_reducible refine wpAny_Break ?_)
  | ((with_reducible show wpAny _ _ (eval (PySem.Expr.Name _ _) _) _ _ _); walk_at "go name")
  | ((with_reducible show wpAny _ _ (loadName _ _) _ _ _); (with_reducible refine r_locn (by assumption) (by walk_at "lk") ?_))
  | ((with_reducible show wpAny _ _ (storeName _ _ _) _ _ _); (with_reducible refine r_store (by assumption) ?_); intro _ _)
  | ((with_reducible refine r_int (by assumption) ?_); intro _ _ _)
  | ((with_reducible refine r_str (by assumption) ?_); intro _ _ _)
  | (with_reducible refine PyProof.Rows.Constant_bool ?_)
  | (with_reducible refine wpAny_BinOp ?_)
  | ((with_reducible show wpAny _ _ (eval (PySem.Expr.List _ _) _) _ _ _); (with_reducible refine List_ ?_))
  | ((with_reducible show wpAny _ _ (newList _) _ _ _); (refine r_list (by assumption) ?_); intro _ _ _)
  | ((with_reducible show wpAny _ _ (eval (PySem.Expr.Call (PySem.Expr.Attribute _ _ _) _ _ _) _) _ _ _); refine MethodCall_ ?_)
  | ((with_reducible show wpAny _ _ (eval (PySem.Expr.Call (PySem.Expr.Name _ _) _ _ _) _) _ _ _); refine PyProof.Rows.Call_ ?_)
  | ((with_reducible show wpAny _ _ (callWith _ (Value.builtin _) _ _ _) _ _ _); first | (with_reducible refine PyProof.Rows.callWith_method0 ?_) | refine PyProof.Rows.callWith_method1 ?_)
  | ((with_reducible show wpAny _ _ (callWith _ (Value.type _) _ _ _) _ _ _); refine PySem.Pv.callWith_type1 ?_)
  | ((with_reducible show wpAny _ _ (spliced _) _ _ _); first | (with_reducible refine PyProof.Rows.args_nil ?_) | refine PyProof.Rows.args_cons ?_)
  | ((with_reducible refine r_add (by assumption) ?_); intro _ _ _)
  | ((with_reducible refine r_sub (by assumption) ?_); intro _ _ _)
  | ((with_reducible refine r_and (by assumption) ?_); intro _ _ _)
  | ((with_reducible refine r_ixor (by assumption) ?_); intro _ _ _)
  | ((with_reducible refine r_iadd (by assumption) ?_); intro _ _ _)
  | ((with_reducible refine r_range1 (by assumption) ?_); intro _ _ _ _ _ _)
  | ((with_reducible refine r_range2 (by assumption) ?_); intro _ _ _ _ _ _)
  | (with_reducible refine PySem.P.truthy_int ?_)
  | ((with_reducible show wpAny _ _ (isTrue (PySem.Expr.UnaryOp PySem.UnaryOp.Not _ _) _ _) _ _ _); (with_reducible refine isTrue_not ?_))
  | ((with_reducible show wpAny _ _ (isTrue (PySem.Expr.BinOp _ _ _ _) _ _) _ _ _); refine isTrue_plain ?_)
  | ((with_reducible show wpAny _ _ (isTrue (PySem.Expr.Name _ _) _ _) _ _ _); refine isTrue_plain ?_)
  | ((with_reducible show wpAny _ _ (isTrue (PySem.Expr.Call _ _ _ _) _ _) _ _ _); refine isTrue_plain ?_)
  | ((with_reducible show wpAny _ _ (exec (Stmt.For _ _ _ _ _) _) _ _ _); refine wpAny_For ?_)
  | ((with_reducible show wpAny _ _ (getMethod _ _ _) _ _ _); walk_at "go meth")
  | ((with_reducible show wpAny _ _ (isTrue (PySem.Expr.Compare _ [_] [_] _) _ _) _ _ _); refine wpAny_isTrue_Compare1 ?_)
  | ((with_reducible show wpAny _ _ (eval (PySem.Expr.Compare _ [_] [_] _) _) _ _ _); refine wpAny_Compare1 ?_)
  | (with_reducible refine PySem.P.lt_int ?_)
  | (with_reducible refine PySem.P.le_int ?_)
  | (with_reducible refine PySem.P.gt_int ?_)
  | (with_reducible refine PySem.P.ge_int ?_)
  | (with_reducible refine PySem.P.eq_int ?_)
  | (with_reducible refine PySem.P.ne_int ?_)
  | (with_reducible refine PySem.P.notIn_str ?_)
  | (with_reducible refine wpAny_truthy_bool ?_)
  | (with_reducible refine wpAny_IfExp ?_)
  | (with_reducible refine wpAny_UnaryOp ?_)
  | ((with_reducible refine r_neg (by assumption) ?_); intro _ _ _)
  | (with_reducible refine Subscript_ ?_)
  | ((with_reducible show wpAny _ _ (exec (Stmt.Assert _ _ _) _) _ _ _); refine wpAny_Assert rfl ?_)
  | ((with_reducible show wpAny _ _ (eval (PySem.Expr.Tuple _ _ _) _) _ _ _); (with_reducible refine Tuple_ ?_))
  | ((with_reducible show wpAny _ _ (newTuple _) _ _ _); (refine r_tuple (by assumption) ?_); intro _ _ _)
  | ((with_reducible show wpAny _ _ (callWith _ (Value.ref _) _ _ _) _ _ _); first | (with_reducible refine cw_r0 (by assumption) (by kernel_rfl) ?_) | refine cw_r (by assumption) (by kernel_rfl) ?_)
  | ((with_reducible show _ ∧ wpAny _ _ (call _ _) _ _ _); refine ⟨⟨_, _, by assumption⟩, ?_⟩)
  | (with_reducible refine useImp (by assumption) ?_)
  | dsimp only [List.cons_append, List.nil_append])

theorem add_bit : ∀ (g N x : Nat), N.testBit g = false → (N + 2 ^ g).testBit x = (decide (x = g) || N.testBit x)
  | 0, N, x, h => by
    rw [Nat.testBit_zero] at h
    have h : N % 2 = 0 := by have := of_decide_eq_false h; omega
    cases x with
    | zero => simp [Nat.testBit_zero]; omega
    | succ x => rw [Nat.testBit_succ, Nat.testBit_succ, show (N + 2 ^ 0) / 2 = N / 2 from by omega]; simp
  | g + 1, N, x, h => by
    rw [Nat.testBit_succ] at h
    have e : (N + 2 ^ (g + 1)) / 2 = N / 2 + 2 ^ g := by rw [Nat.pow_succ]; omega
    cases x with
    | zero => simp [Nat.testBit_zero, Nat.pow_succ]
    | succ x => rw [Nat.testBit_succ, Nat.testBit_succ, e, add_bit g (N / 2) x h]; simp
theorem sub_bit : ∀ (p N : Nat), N.testBit p = true → 2 ^ p ≤ N ∧ (N - 2 ^ p).testBit p = false
  | 0, N, h => by
    rw [Nat.testBit_zero] at h
    have h := of_decide_eq_true h
    refine ⟨by omega, ?_⟩
    rw [Nat.testBit_zero]
    exact decide_eq_false (by omega)
  | p + 1, N, h => by
    rw [Nat.testBit_succ] at h
    obtain ⟨h1, h2⟩ := sub_bit p (N / 2) h
    refine ⟨by rw [Nat.pow_succ]; omega, ?_⟩
    rw [Nat.testBit_succ, show (N - 2 ^ (p + 1)) / 2 = N / 2 - 2 ^ p from by rw [Nat.pow_succ]; omega]
    exact h2
theorem mv_bits {N p g : Nat} (hp : N.testBit p = true) (hg : N.testBit g = false) (x : Nat) : (N - 2 ^ p + 2 ^ g).testBit x = (decide (x = g) || (!decide (x = p) && N.testBit x)) := by
  obtain ⟨h1, h2⟩ := sub_bit p N hp
  have hM : ∀ x, N.testBit x = (decide (x = p) || (N - 2 ^ p).testBit x) := fun x => by
    have := add_bit p (N - 2 ^ p) x h2
    rw [Nat.sub_add_cancel h1] at this; exact this
  have hMx : ∀ x, (N - 2 ^ p).testBit x = (!decide (x = p) && N.testBit x) := fun x => by
    rw [hM x]
    by_cases e : x = p
    · subst e; simp [h2]
    · simp [e]
  rw [add_bit g _ x (by rw [hMx, hg]; simp), hMx]
theorem mv_lt {N p g : Nat} (hN : N < 2 ^ 21) (hp : N.testBit p = true) (hg : N.testBit g = false) (hg2 : g < 21) : N - 2 ^ p + 2 ^ g < 2 ^ 21 := by
  refine Nat.lt_pow_two_of_testBit _ fun i hi => ?_
  rw [mv_bits hp hg]
  have : N.testBit i = false := Nat.testBit_lt_two_pow (Nat.lt_of_lt_of_le hN (Nat.pow_le_pow_right (by decide) hi))
  have h2 : ¬ i = g := by omega
  simp [this, h2]
/-- one bead's move: the row come to and its count -/
def mvOne (N : Nat) (step : Int) (pk : Nat × Nat) : Option (Nat × Int) :=
  if (pk.1 : Int) + step < 0 then none else if N.testBit ((pk.1 : Int) + step).toNat then none else
    some (N - 2 ^ pk.1 + 2 ^ ((pk.1 : Int) + step).toNat, 1 - (((bitsOf (N - 2 ^ pk.1 + 2 ^ ((pk.1 : Int) + step).toNat)).idxOf ((pk.1 : Int) + step).toNat : Int) - pk.2) % 2 * 2)
def movesOf (N : Nat) (step : Int) : List (Nat × Int) := (bitsOf N).zipIdx.filterMap (mvOne N step)

abbrev tup3 (a : Int) (t : Tok) (x : Str) (u : Tok) (b : Int) (v : Tok) : Obj := { cls := .type "tuple", data := .seq #[.int a t, .str x u, .int b v] }
/-- the tuples of moves -/
inductive MvAre : List (Addr × Obj) → List (Nat × Int) → Prop
  | nil : MvAre [] []
  | snoc {l : List (Addr × Obj)} {r : List (Nat × Int)} {a : Addr} {N : Nat} {c : Int} {t u v : Tok} : MvAre l r → MvAre (l ++ [(a, tup3 N t (T (bitsOf N)) u c v)]) (r ++ [(N, c)])

def namesL : List Str := (List.range 21).map nm

theorem idx_spec {g : Nat} : ∀ (bs : List Nat), g ∈ bs → bs[bs.idxOf g]? = some g ∧ ∀ i, i < bs.idxOf g → bs[i]? ≠ some g
  | b :: r, h => by
    rw [List.idxOf_cons]
    by_cases e : b = g
    · subst e; simp
    · have e1 : (b == g) = false := by simpa using e
      rw [e1, cond_false]
      obtain ⟨h1, h2⟩ := idx_spec r ((List.mem_cons.mp h).resolve_left fun q => e q.symm)
      refine ⟨by simpa using h1, fun i hi => ?_⟩
      cases i with
      | zero => simpa using e
      | succ i => simpa using h2 i (by omega)
theorem idx_get {bs : List Nat} {g : Nat} (h : g ∈ bs) : (bs.map nm)[bs.idxOf g]? = some (nm g) := by
  rw [List.getElem?_map, (idx_spec bs h).1]; rfl
theorem idx_no {bs : List Nat} {g : Nat} (hb : ∀ x ∈ bs, x < 21) (h : g ∈ bs) : ∀ i, i < bs.idxOf g → (bs.map nm)[i]? ≠ some (nm g) := fun i hi e => by
  rw [List.getElem?_map, Option.map_eq_some_iff] at e
  obtain ⟨b, h1, h2⟩ := e
  have := nm_inj _ (hb _ (List.mem_of_getElem? h1)) g (hb g h) h2
  subst this
  exact (idx_spec bs h).2 i hi h1
theorem permA {α : Type} {p i l : α} {T R : List α} : (l :: i :: (T ++ p :: R)).Perm (p :: i :: l :: (T ++ R)) := by
  refine ((List.perm_middle.cons i).cons l).trans ?_
  exact ((List.Perm.swap i l _).trans (((List.Perm.swap p l _).cons i).trans (List.Perm.swap p i _)))
theorem MvAre.length {l : List (Addr × Obj)} {r : List (Nat × Int)} (h : MvAre l r) : l.length = r.length := by
  induction h with
  | nil => rfl
  | snoc _ ih => rw [List.length_append, List.length_append, ih]; rfl
theorem led_eq {lm l9 : Addr} {o : Obj} {tups rest : List (Addr × Obj)} {ep : Nat} : (lm, listOf ((tups.map fun p => Value.ref p.1).toArray.push (.ref l9)) (ep + 1)) :: (tups ++ (l9, o) :: rest) = (lm, listOf ((tups ++ [(l9, o)]).map fun p => Value.ref p.1).toArray (ep + 1)) :: ((tups ++ [(l9, o)]) ++ rest) := by simp
theorem permB {α : Type} {w l : α} {T R : List α} : (w :: l :: (T ++ R)).Perm (l :: (T ++ w :: R)) :=
  (List.Perm.swap l w _).trans ((List.perm_middle.symm).cons l)
theorem joinIf {C : Cx} {m : Str → Option Value} {led : List (Addr × Obj)} {s : Shared} {M : Model} {A : Around} {E : Value → Shared → Prop} {c : Prop} [Decidable c] {t1 t2 : Sem Value} {Q : Value → Shared → Prop} (S : St C m led s) (x y : Str)
    (h1 : c → wpAny M A t1 (fun v s' => ∃ lp ta tb, v = .ref lp ∧ St C m ((lp, listOf #[.str x ta, .str y tb] 0) :: led) s') E s)
    (h2 : ¬ c → wpAny M A t2 (fun v s' => ∃ lp ta tb, v = .ref lp ∧ St C m ((lp, listOf #[.str x ta, .str y tb] 0) :: led) s') E s)
    (k : ∀ lp ta tb s', St C m ((lp, listOf #[.str x ta, .str y tb] 0) :: led) s' → Q (.ref lp) s') : if c then wpAny M A t1 Q E s else wpAny M A t2 Q E s := by
  split
  · rename_i hc; exact wpAny_mono (h1 hc) (fun v s' ⟨lp, ta, tb, e, S'⟩ => e ▸ k lp ta tb s' S') fun _ _ z => z
  · rename_i hc; exact wpAny_mono (h2 hc) (fun v s' ⟨lp, ta, tb, e, S'⟩ => e ▸ k lp ta tb s' S') fun _ _ z => z
theorem names_get (p : Nat) (h : p < 21) : namesL[p]? = some (nm p) := by unfold namesL; simp [h]
theorem names_no (p : Nat) (h : p < 21) : ∀ i, i < p → namesL[i]? ≠ some (nm p) := fun i hi e => by
  rw [names_get i (by omega)] at e
  have := nm_inj i (by omega) p h (Option.some.inj e)
  omega
/-- where the loop over the words stands -/
structure MJ (N : Nat) (step : Int) (tS tN : Tok) (lw ln : Addr) (wv : List Value) (led : List (Addr × Obj)) (i : Nat) (m' : Str → Option Value) (led' : List (Addr × Obj)) (lm : Addr) (tups : List (Addr × Obj)) (ep : Nat) (tf : Tok) : Prop where
  h1 : m' "moves" = some (.ref lm)
  h2 : m' "words" = some (.ref lw)
  h3 : m' "framed" = some (.str (framedT (bitsOf N)) tf)
  h4 : m' "names" = some (.ref ln)
  h5 : m' "step" = some (.int step tS)
  h6 : m' "number" = some (.int N tN)
  hl : led' = (lm, listOf (tups.map fun p => Value.ref p.1).toArray ep) :: (tups ++ (lw, listOf wv.toArray 0) :: led)
  hmv : MvAre tups (((bitsOf N).zipIdx.take i).filterMap (mvOne N step))
set_option maxHeartbeats 8000000 in
theorem moves_spec {C : Cx} {m : Str → Option Value} {led : List (Addr × Obj)} {s : Shared} {Q E : Value → Shared → Prop} {N : Nat} {step : Int} {tN tT tS : Tok} {ln : Addr} {nv : List Value} {ne : Nat} (S : St C m led s)
    (hN : 0 < N) (hN2 : N < 2 ^ 21) (hst : -21 ≤ step) (hst2 : ∀ p ∈ bitsOf N, (p : Int) + step < 21) (hst0 : step ≠ 0) (hln : (ln, listOf nv.toArray ne) ∈ led) (hnv : StrsAre nv namesL)
    (k : ∀ l tups ep s', MvAre tups (movesOf N step) → St C m ((l, listOf (tups.map fun p => Value.ref p.1).toArray ep) :: (tups ++ led)) s' → Q (.ref l) s') :
    wpAny (model Pr C.w) (AU 680 4800) (call (.ref 65) [.int N tN, .str (T (bitsOf N)) tT, .int step tS, .ref ln]) Q E s := by
  refine call0 [("number", .int N tN), ("text", .str (T (bitsOf N)) tT), ("step", .int step tS), ("names", .ref ln)] S (by rfl) (by kernel_rfl) (by decide) (by rfl) (locs (by rfl)) (by decide +kernel) (by rfl) (by rfl) (by rfl) (by rfl) ?_
  intro C' s' hw hlt hst' S'
  refine impGen fun Q0 hQ0 => ?_
  repeat walk_at "go"
  have hTl := TN_len N
  have hne : bitsOf N ≠ [] := bitsOf_ne hN hN2
  refine r_split (by assumption) (by decide) (by omega) ?_
  intro lw wv s₁ hwv S₁
  rw [show PySem.Txt.split (T (bitsOf N)) (Str.ofString ", ") = (bitsOf N).map nm from T_split hne bitsOf_lt] at hwv
  have hwl : wv.length = (bitsOf N).length := by rw [hwv.length, List.length_map]
  have hnl := bitsOf_len N
  repeat walk_at "go"
  refine r_cat (by assumption) (by rw [sizeLine_eq, show (Str.ofString ", ").length = 2 from by decide]; omega) ?_
  intro _ _ _
  repeat walk_at "go"
  refine r_cat (by assumption) (by rw [sizeLine_eq, PySem.Str.length_append, show (Str.ofString ", ").length = 2 from by decide]; omega) ?_
  intro _ _ _
  repeat walk_at "go"
  refine r_len_list (by assumption) (isL (by assumption) (by walk_at "mem")) (by simp [hwl]; omega) ?_
  intro _ _ _
  repeat walk_at "go"
  refine for_rangeB (a := 0) (n := (bitsOf N).length) (fun i m' led' => ∃ lm tups ep tf, MJ N step tS tN lw ln wv led i m' led' lm tups ep tf)
    (by assumption) (by simp [hwl]) (by decide) (by simp [hwl]; omega) rfl ⟨_, [], 0, _, by walk_at "lk", by walk_at "lk", by walk_at "lk", by walk_at "lk", by walk_at "lk", by walk_at "lk", rfl, .nil⟩ ?_ ?_
  · rintro I i ti oI m₅ led₅ s₅ hi ⟨lm, tups, ep, tf, h1, h2, h3, h4, h5, h6, rfl, hmv⟩ S₅
    obtain ⟨p, hp⟩ : ∃ p, (bitsOf N)[i]? = some p := ⟨_, List.getElem?_eq_getElem hi⟩
    have hpm : p ∈ bitsOf N := List.mem_of_getElem? hp
    obtain ⟨hp21, hpN⟩ := bitsOf_mem.mp hpm
    have hps := hst2 p hpm
    obtain ⟨tp, hv⟩ := hwv.get i (nm p) (by rw [List.getElem?_map, hp]; rfl)
    have hzi : (((bitsOf N).zipIdx.take (i + 1)).filterMap (mvOne N step)) = (((bitsOf N).zipIdx.take i).filterMap (mvOne N step)) ++ (mvOne N step (p, i)).toList := by
      have hz : (bitsOf N).zipIdx[i]? = some (p, i) := by rw [List.getElem?_zipIdx, hp]; simp
      rw [List.take_add_one, hz, List.filterMap_append]
      congr 1
    have hvlen : nv.length = 21 := by rw [hnv.length]; rfl
    refine impGen fun Q1 hQ1 => ?_
    repeat walk_at "go"
    refine r_item (x := .str (nm p) tp) (isL (by assumption) (by walk_at "mem")) (by omega) (by omega) (by simpa using hv) ?_
    repeat walk_at "go"
    refine r_index (by assumption) (St.get (by assumption) (by walk_at "mem")) hnv p (names_get p hp21) (names_no p hp21) (by omega) ?_
    intro _ _ _
    repeat walk_at "go"
    by_cases hg0 : (0 : Int) ≤ (p : Int) + step
    · rw [if_pos (by simpa using hg0)]
      obtain ⟨g, hg⟩ : ∃ g : Nat, (p : Int) + step = g := ⟨((p : Int) + step).toNat, by omega⟩
      have hg21 : g < 21 := by omega
      obtain ⟨tg, hgv⟩ := hnv.get g (nm g) (names_get g hg21)
      rw [hg] at hps
      repeat walk_at "go"
      have hlo : ∃ lo hi : Nat, lo < hi ∧ hi < 21 ∧ ((step < 0 ∧ lo = g ∧ hi = p) ∨ (¬ step < 0 ∧ lo = p ∧ hi = g)) := by
        by_cases h : step < 0
        · exact ⟨g, p, by omega, hp21, .inl ⟨h, rfl, rfl⟩⟩
        · exact ⟨p, g, by omega, hg21, .inr ⟨h, rfl, rfl⟩⟩
      obtain ⟨lo, hi', hlh, hh21, hcase⟩ := hlo
      refine joinIf (by assumption) (nm lo) (nm hi') (fun hc => ?_) (fun hc => ?_) (fun lp ta tb s₆ S₆ => ?_)
      · obtain ⟨hc, rfl, rfl⟩ : step < 0 ∧ lo = g ∧ hi' = p := by
          rcases hcase with h | h
          · exact h
          · exact absurd (of_decide_eq_true hc) h.1
        repeat walk_at "go"
        refine r_item (x := .str (nm lo) tg) (isL (by assumption) (by walk_at "mem")) (by omega) (by omega) (by rw [hg]; simpa using hgv) ?_
        repeat walk_at "go"
        refine r_item (x := .str (nm hi') tp) (isL (by assumption) (by walk_at "mem")) (by omega) (by omega) (by simpa using hv) ?_
        repeat walk_at "go"
        exact ⟨_, _, _, rfl, by assumption⟩
      · obtain ⟨hc, rfl, rfl⟩ : ¬ step < 0 ∧ lo = p ∧ hi' = g := by
          rcases hcase with h | h
          · exact absurd (decide_eq_true h.1) hc
          · exact h
        repeat walk_at "go"
        refine r_item (x := .str (nm lo) tp) (isL (by assumption) (by walk_at "mem")) (by omega) (by omega) (by simpa using hv) ?_
        repeat walk_at "go"
        refine r_item (x := .str (nm hi') tg) (isL (by assumption) (by walk_at "mem")) (by omega) (by omega) (by rw [hg]; simpa using hgv) ?_
        repeat walk_at "go"
        exact ⟨_, _, _, rfl, by assumption⟩
      have hl1 := nm_len lo (by omega)
      have hl2 := nm_len hi' hh21
      repeat walk_at "go"
      refine r_item (x := .str (nm lo) ta) (isL (by assumption) (by walk_at "mem")) (by omega) (by omega) (by simp) ?_
      repeat walk_at "go"
      refine r_cat (by assumption) (by rw [sizeLine_eq, show (Str.ofString "..., ").length = 5 from by decide]; omega) ?_
      intro _ _ _
      repeat walk_at "go"
      refine r_cat (by assumption) (by rw [sizeLine_eq]; simp only [PySem.Str.length_append, show (Str.ofString "..., ").length = 5 from by decide, show (Str.ofString ",... ").length = 5 from by decide]; omega) ?_
      intro _ _ _
      repeat walk_at "go"
      refine r_item (x := .str (nm hi') tb) (isL (by assumption) (by walk_at "mem")) (by omega) (by omega) (by simp) ?_
      repeat walk_at "go"
      refine r_cat (by assumption) (by rw [sizeLine_eq]; simp only [PySem.Str.length_append, show (Str.ofString "..., ").length = 5 from by decide, show (Str.ofString ",... ").length = 5 from by decide]; omega) ?_
      intro _ _ _
      repeat walk_at "go"
      refine r_cat (by assumption) (by rw [sizeLine_eq]; simp only [PySem.Str.length_append, show (Str.ofString "..., ").length = 5 from by decide, show (Str.ofString ",... ").length = 5 from by decide, show (Str.ofString ", ...").length = 5 from by decide]; omega) ?_
      intro _ _ _
      repeat walk_at "go"
      refine up (em_spec (want := wantT (nm lo) (nm hi')) (by assumption) (want_in (by omega) hh21) (want_split (by omega) hh21) ?_ ?_ ?_)
      · unfold wantT; simp only [PySem.Str.length_append, show (Str.ofString "..., ").length = 5 from by decide, show (Str.ofString ",... ").length = 5 from by decide, show (Str.ofString ", ...").length = 5 from by decide]; omega
      · unfold framedT; simp only [PySem.Str.length_append, show sepT.length = 2 from by decide]; omega
      intro _ _
      rw [em_is hne bitsOf_lt (bitsOf_sorted N) hlh hh21]
      have hem : (decide (lo ∈ bitsOf N) && decide (hi' ∈ bitsOf N)) = N.testBit g := by
        rcases hcase with ⟨_, rfl, rfl⟩ | ⟨_, rfl, rfl⟩ <;> simp [bitsOf_mem, hpN, hp21, hg21]
      rw [hem]
      repeat walk_at "go"
      cases hgb : N.testBit g with
      | true =>
        rw [if_neg (by decide)]
        repeat walk_at "go"
        refine ⟨_, _, St.tl (by assumption), lm, tups, ep, tf, by walk_at "lk", by walk_at "lk", by walk_at "lk", by walk_at "lk", by walk_at "lk", by walk_at "lk", rfl, ?_⟩
        rw [hzi]
        have : mvOne N step (p, i) = none := by
          unfold mvOne
          simp only [hg, Int.toNat_natCast, hgb]
          rw [if_neg (by omega), if_pos trivial]
        rw [this]; simpa using hmv
      | false =>
        rw [if_pos (by decide)]
        have hMlt := mv_lt hN2 hpN hgb hg21
        have hMb := mv_bits hpN hgb
        have hle := (sub_bit p N hpN).1
        have hgM : g ∈ bitsOf (N - 2 ^ p + 2 ^ g) := bitsOf_mem.mpr ⟨hg21, by rw [hMb]; simp⟩
        have hp2 : 0 < 2 ^ g := Nat.two_pow_pos g
        repeat walk_at "go"
        refine r_pow ((2 ^ p : Nat) : Int) (by assumption) (by omega) (by omega) (by decide) (by rw [show ((p : Int) + step - step).toNat = p from by omega]; push_cast; rfl) ?_
        intro _ _ _
        repeat walk_at "go"
        refine r_pow ((2 ^ g : Nat) : Int) (by assumption) (by omega) (by omega) (by decide) (by rw [show ((p : Int) + step).toNat = g from by omega]; push_cast; rfl) ?_
        intro _ _ _
        repeat walk_at "go"
        have hmoved : ((N : Nat) : Int) - ((2 ^ p : Nat) : Int) + ((2 ^ g : Nat) : Int) = ((N - 2 ^ p + 2 ^ g : Nat) : Int) := by omega
        rw [hmoved]
        refine up (pf_spec (by assumption) (by omega) hMlt ?_)
        intro _ _ _
        repeat walk_at "go"
        have hTl2 := TN_len (N - 2 ^ p + 2 ^ g)
        have hMl := bitsOf_len (N - 2 ^ p + 2 ^ g)
        have hMne : bitsOf (N - 2 ^ p + 2 ^ g) ≠ [] := fun q => by rw [q] at hgM; cases hgM
        refine r_split (by assumption) (by decide) (by omega) ?_
        intro lt vt s₈ hvt S₈
        rw [show PySem.Txt.split (T (bitsOf (N - 2 ^ p + 2 ^ g))) (Str.ofString ", ") = (bitsOf (N - 2 ^ p + 2 ^ g)).map nm from T_split hMne bitsOf_lt] at hvt
        have hvtl : vt.length ≤ 21 := by rw [hvt.length, List.length_map]; exact hMl
        have hix := List.idxOf_lt_length_of_mem hgM
        repeat walk_at "go"
        refine r_item (x := .str (nm g) tg) (isL (by assumption) (by walk_at "mem")) (by omega) (by omega) (by rw [hg]; simpa using hgv) ?_
        repeat walk_at "go"
        refine r_index (by assumption) (St.get (by assumption) (by walk_at "mem")) hvt ((bitsOf (N - 2 ^ p + 2 ^ g)).idxOf g) (idx_get hgM) (idx_no bitsOf_lt hgM) (by omega) ?_
        intro _ _ _
        repeat walk_at "go"
        rw [hmoved]
        refine r_mod (((((bitsOf (N - 2 ^ p + 2 ^ g)).idxOf g : Nat) : Int) - (0 + (i : Int))) % 2) (by assumption) (by decide) (Int.fmod_eq_emod_of_nonneg _ (by decide)) ?_
        intro _ _ _
        repeat walk_at "go"
        refine r_mul (by assumption) (by decide) (by omega) ?_
        intro _ _ _
        repeat walk_at "go"
        rename_i l9 s9 S9
        have hmv1 : mvOne N step (p, i) = some (N - 2 ^ p + 2 ^ g, 1 - ((((bitsOf (N - 2 ^ p + 2 ^ g)).idxOf g : Nat) : Int) - (0 + (i : Int))) % 2 * 2) := by
          unfold mvOne
          simp only [hg, Int.toNat_natCast, hgb, Int.zero_add]
          rw [if_neg (by omega), if_neg (by decide)]
        have hml := hmv.length
        have hfl := List.length_filterMap_le (mvOne N step) ((bitsOf N).zipIdx.take i)
        have htk : ((bitsOf N).zipIdx.take i).length ≤ i := by rw [List.length_take]; omega
        refine r_append (St.perm (St.snd (St.snd S9)) permA) (fun s₉ S₉ => ?_) (by rw [List.size_toArray, List.length_map, sizeLine_eq]; omega)
        repeat walk_at "go"
        refine ⟨_, _, S₉.swap, lm, _, ep + 1, tf, by walk_at "lk", by walk_at "lk", by walk_at "lk", by walk_at "lk", by walk_at "lk", by walk_at "lk", led_eq, ?_⟩
        rw [hzi, hmv1]
        exact .snoc hmv
    · rw [if_neg (by simpa using hg0)]
      repeat walk_at "go"
      refine ⟨_, _, by assumption, lm, tups, ep, tf, by walk_at "lk", by walk_at "lk", by walk_at "lk", by walk_at "lk", by walk_at "lk", by walk_at "lk", rfl, ?_⟩
      rw [hzi]
      have : mvOne N step (p, i) = none := by unfold mvOne; rw [if_pos (by show (p : Int) + step < 0; omega)]
      rw [this]; simpa using hmv
  · rintro m₅ led₅ s₅ ⟨lm, tups, ep, tf, h1, h2, h3, h4, h5, h6, rfl, hmv⟩ S₅
    repeat walk_at "go"
    have hfin : (((bitsOf N).zipIdx.take (bitsOf N).length).filterMap (mvOne N step)) = movesOf N step := by
      unfold movesOf
      rw [List.take_of_length_le (by rw [List.length_zipIdx]; exact Nat.le_refl _)]
    rw [hfin] at hmv
    have S9 : St C' m₅ ((lm, listOf (tups.map fun p => Value.ref p.1).toArray ep) :: (tups ++ led)) s₅ := St.tl (S₅.perm permB)
    repeat walk_at "go"
    exact Ret.mk S9 fun Z => k lm tups ep s₅ hmv Z
end Mine

-- TyCell
namespace Mine
open PySem PySem.W PyProof.Rows PySem.Calls PySem.Spec
theorem cells_addrs {cm : Str → Option Value} {cs : List (Str × Addr)} {cells : List (Addr × Obj)} (X : CellsAre cm cs cells) : cells.map (·.1) = cs.map (·.2) := by
  induction X with
  | nil => rfl
  | cons _ _ ih => rw [List.map_cons, List.map_cons, ih]

theorem cells_nodup {names : List (Str × NameKind)} (h : ((cellsFrom 0 names []).map (·.1)).Nodup) (n : Nat) : ((cellsFrom n names []).map (·.1)).Nodup :=
  (cellsFrom_names names 0 n [] [] rfl).symm ▸ h

/-- a call of a plain def with cells -/
theorem callC {C : Cx} {m : Str → Option Value} {led : List (Addr × Obj)} {s : Shared} {A : Around} {E : Value → Shared → Prop} {Q : Value → Shared → Prop}
    {name qual : Str} {params : Arguments} {body : List Stmt} {scope : Scope} {dV kV doc pm cdv ct oc : Value} {an od : Option Addr} {osl : Array (Option Value)} {f : Addr} {args : List Value} (binds : List (Str × Value))
    (S : St C m led s) (ho : (KF C.w).lookup f = some ⟨oc, od, .func (fnX name qual params body scope [] dV kV doc pm an cdv ct), osl⟩) (hcd : codeIn (KF C.w) cdv qual = true) (hroom : A.depth < recursionLimit)
    (hbind : bindArgs (fnX name qual params body scope [] dV kV doc pm an cdv ct) ⟨args, []⟩ = pure binds)
    (hkind : ∀ n, ∀ x ∈ binds, scope.names.lookup x.1 = some .local ∨ (scope.names.lookup x.1 = some .cell ∧ ((cellsFrom n scope.names []).lookup x.1).isSome = true))
    (hnd : ((cellsFrom 0 scope.names []).map (·.1)).Nodup) (hco : scope.isCoroutine = false) (hgen : scope.isGenerator = false) (hk : scope.kind = .function)
    (h : ∀ (C' : Cx) s' cells, C'.w = C.w → (∀ p ∈ led, p.1 < C'.L) → (∀ b o, C.g.get? b = some o → C'.g.get? b = some o) →
      St C' (bindL (envOfC qual scope C'.L f cdv).kindOf binds fun _ => none) (cells ++ led) s' → CellsAre (bindC (envOfC qual scope C'.L f cdv).kindOf binds fun _ => none) (cellsFrom (C'.L + 1) scope.names []) cells →
      wpAny (model Pr C'.w) (A.deeper (envX qual scope C'.L f cdv (cellsFrom (C'.L + 1) scope.names []))) (execs body (envX qual scope C'.L f cdv (cellsFrom (C'.L + 1) scope.names [])))
        (fun fl s'' => Ret C m Q C' (match fl with | .ret v => v | _ => .none) s'') (fun _ _ => False) s') :
    wpAny (model Pr C.w) A (call (.ref f) args) Q E s := by
  refine wpAny_call (codeAny_call_function (fd := fnX name qual params body scope [] dV kV doc pm an cdv ct) hroom (S.in _ _ ho) rfl hco hgen rfl (codeRec_of S.in hcd) ((BindsTo.of_eq hbind : BindsTo s (fnX name qual params body scope [] dV kV doc pm an cdv ct) ⟨args, []⟩ binds) _ _ _ _ ?_))
  refine wpAny_newFunctionEnv_cells hk (hkind _) fun env' he s' x => ?_
  subst he
  have hk₁ := x.toInCall.keep
  obtain ⟨cells, NC, Y⟩ : ∃ cells, News s.heap s.heap.objs.size s'.heap cells ∧ CellsAre _ _ cells :=
    Cl.news (Nat.le_refl _) fun n c hm => ⟨x.cell n c (lookup_of_mem_nodup (cells_nodup hnd _) hm), x.above n c hm⟩
  have hap := x.apart
  have hlo := x.above
  have hns := x.toInCall.ns
  obtain ⟨h₁, tk, e, _⟩ := x.done
  subst e
  have Nc : News (inner C led s).g (inner C led s).L h₁ cells := fun p hp => ⟨(NC p hp).1, (NC p hp).2.1, hid_none (NC p hp).2.2⟩
  have nd : ((cells ++ led).map (·.1)).Nodup := by
    rw [List.map_append, cells_addrs Y]
    refine List.nodup_append.mpr ⟨List.pairwise_map.mpr hap, S.nd, ?_⟩
    rintro _ ha b hb rfl
    obtain ⟨z, hz, rfl⟩ := List.mem_map.mp ha
    obtain ⟨p, hp, e⟩ := List.mem_map.mp hb
    exact Nat.lt_asymm (S.lt hp) (e ▸ hlo z.1 z.2 hz)
  exact ⟨S.nolimit.keeps hk₁, codeAny_func (wpAny_mono (h (inner C led s) _ cells rfl (fun p hp => S.lt hp) S.stays ⟨inner_fr hns hk₁, Nc.append (S.given hk₁), nd, S.kn.keeps S.stays, S.gn, S.os⟩ Y)
    (fun fl s'' ⟨_, _, S'', k⟩ => k (S.out S'')) fun _ _ z => z.elim)⟩

section
variable {C : Cx} {m : Str → Option Value} {led : List (Addr × Obj)} {s : Shared} {A : Around} {E : Value → Shared → Prop} {w : World} {env : Env} {M : Model}
/-- a cell read -/
theorem r_cell {x : Str} {pos : Pos} {c : Addr} {o : Obj} {v : Value} {Q : Value → Shared → Prop} (S : St C m led s) (hc : env.cells.lookup x = some c) (hm : (c, o) ∈ led) (hd : o.data = .cell (some v)) (k : Q v s)
    (hk : env.scope.kind = .function := by rfl) (hx : env.kindOf x = some .cell := by kernel_rfl) (hb : (x == ("__debug__" : Str)) = false := by kernel_rfl) : wpAny M A (eval (.Name x pos) env) Q E s :=
  wpAny_Name (wpAny_loadName_cell hk hx hc ⟨o, S.get hm, hd⟩ k) hb
/-- a cell set, the cell ahead in the ledger -/
theorem r_scell {x : Str} {c : Addr} {o : Obj} {v₀ : Option Value} {v : Value} {Q : Unit → Shared → Prop} (S : St C m ((c, o) :: led) s) (hc : env.cells.lookup x = some c) (hd : o.data = .cell v₀)
    (k : ∀ s' o', o'.data = .cell (some v) → St C m ((c, o') :: led) s' → Q () s') (hk : env.scope.kind = .function := by rfl) (hx : env.kindOf x = some .cell := by kernel_rfl) : wpAny M A (storeName env x v) Q E s := by
  refine wpAny_storeName_cell hk hx hc ⟨o, S.get (.head _), hd⟩ fun h' hv hs => ?_
  obtain ⟨o', ho', hd'⟩ := hv
  exact k _ o' hd' (S.chg (tk := s.toks) hs ho')
end
end Mine

-- TyComp
namespace Mine
open PySem PySem.W PyProof.Rows PySem.Calls PySem.Spec
section
variable {C : Cx} {m : Str → Option Value} {led : List (Addr × Obj)} {s : Shared} {A : Around} {E : Value → Shared → Prop} {w : World} {env : Env}

abbrev testsOf (ifs : List PySem.Expr) (env : Env) : Sem Bool := forIn ifs true fun c r => if r = true then do let ok ← isTrue c env (eval c env); pure (ForInStep.yield ok) else pure (ForInStep.yield r)

theorem comp_start {e : PySem.Expr} {d : Nat} {it acc : Value} {g : Comprehension} {R : Result → Shared → Prop} (hg : (clausesOf e)[d]? = some g) (ha : (g.is_async != 0) = false) (hfr : (Code.compStart e d it acc env).isFrame = false) (hu : A.under (Code.compStart e d it acc env) = A)
    (h0 : codeAny (model Pr w) A (.compLoop e d it acc env) R s)
    (h : wpAny (model Pr w) A (pyIter it) (fun it' s' => codeAny (model Pr w) A (.compLoop e d it' acc env) R s') (fun _ _ => False) s) : codeAny (model Pr w) A (.compStart e d it acc env) R s := by
  refine codeAny_of_tree ?_
  show wpAny _ _ (if (Code.compStart e d it acc env).isFrame then _ else (compStart e d it acc env).onRaise (fun x => do noteFrame x env; standAt theWindowsPlace)) _ _ s
  rw [hfr, if_neg Bool.false_ne_true, hu]
  refine wpAny_notedAt ?_
  unfold compStart
  rw [hg]
  simp only [Option.elim, ha, Bool.false_eq_true, if_false]
  show wpAny _ _ (ask >>= _) _ _ s
  refine wpAny_bind (wpAny_askSetting (wpAny_ite ?_))
  split
  · exact wpAny_bind (wpAny_pure (wpAny_pure (And.intro rfl h0)))
  · refine wpAny_bind (wpAny_rule ?_)
    exact wpAny_bind (wpAny_standAt (wpAny_bind (absurdE (wpAny_mono h (fun it' s' h' => wpAny_pure (And.intro rfl h')) fun _ _ z => z))))

theorem comp_loop {e : PySem.Expr} {d : Nat} {p0 : Pos} {x : Str} {px : Pos} {ifs : List PySem.Expr} {act : Sem Unit} {acc : Value} {I : Addr} {itP : Nat → Obj → Prop} {n : Nat} {val : Nat → Value → Prop} {need : List (Addr × Obj) → Prop} {R : Result → Shared → Prop}
    (J : Nat → (Str → Option Value) → List (Addr × Obj) → Prop)
    (nxt : ∀ i m led s o Q', i < n → need led → itP i o → St C m ((I, o) :: led) s → (∀ v s' o', val i v → itP (i + 1) o' → St C m ((I, o') :: led) s' → Q' (some v) s') → wpAny (model Pr w) A (pyNext (.ref I)) Q' (fun _ _ => False) s)
    (fin : ∀ m led s o Q', need led → itP n o → St C m ((I, o) :: led) s → (∀ s', St C m led s' → Q' none s') → wpAny (model Pr w) A (pyNext (.ref I)) Q' (fun _ _ => False) s)
    (hneed : ∀ i m led, J i m led → need led)
    {o₀ : Obj} (hit₀ : itP 0 o₀) (S : St C m ((I, o₀) :: led) s) (h0 : J 0 m led)
    (turn : ∀ i v m led s o, i < n → val i v → J i m led → St C (upd m x v) ((I, o) :: led) s →
      wpAny (model Pr w) A (testsOf ifs env) (fun ok s₃ => if ok = true then wpAny (model Pr w) A act (fun _ s₅ => ∃ m' led', St C m' ((I, o) :: led') s₅ ∧ J (i + 1) m' led') (fun _ _ => False) s₃
        else ∃ m' led', St C m' ((I, o) :: led') s₃ ∧ J (i + 1) m' led') (fun _ _ => False) s)
    (done : ∀ m led s, J n m led → St C m led s → R (.ok .next) s)
    (heq : compTurn e d (.ref I) acc env = (do
      standAt p0
      match ← pyNext (.ref I) with
      | none => pure (.done .next)
      | some v =>
        letOwnedTupleGo (.Name x px) (.ref I) v
        assign (.Name x px) env v
        let mut ok := true
        for c in ifs do
          if ok then ok ← isTrue c env (eval c env)
        if ok then act
        again (.compLoop e d (.ref I) acc env)))
    (hfr : (Code.compLoop e d (.ref I) acc env).isFrame = false) (hq : (Code.compLoop e d (.ref I) acc env).quiet = true) (hu : A.under (Code.compLoop e d (.ref I) acc env) = A)
    (hL : env.locals = C.L := by rfl) (hk : env.scope.kind = .function := by rfl) (hx : env.kindOf x = some .local := by kernel_rfl) :
    codeAny (model Pr w) A (.compLoop e d (.ref I) acc env) R s := by
  refine codeAny_loop hq (fun k s' => ∃ i m' led' o', k = n - i ∧ i ≤ n ∧ itP i o' ∧ St C m' ((I, o') :: led') s' ∧ J i m' led') ?_ (n - 0) ⟨0, m, led, o₀, rfl, Nat.zero_le _, hit₀, S, h0⟩
  rintro k s' ⟨i, m', led', o', rfl, hi, hit, S', hJ⟩
  show wpAny _ _ (if (Code.compLoop e d (.ref I) acc env).isFrame then _ else (compTurn e d (.ref I) acc env).onRaise (fun x => do noteFrame x env; theTreesLotGoes x)) _ _ s'
  rw [hfr, if_neg Bool.false_ne_true, hu]
  refine wpAny_noted ?_
  rw [heq]
  refine wpAny_bind (wpAny_standAt (wpAny_bind ?_))
  by_cases hlt : i < n
  · refine absurdE (nxt i m' led' s' o' _ hlt (hneed _ _ _ hJ) hit S' fun v s₁ o₁ hv hit₁ S₁ => ?_)
    refine wpAny_bind (wpAny_of_eq rfl ?_)
    refine wpAny_bind (wpAny_assign_Name (r_store S₁ (fun s₂ S₂ => ?_) hL hk hx))
    refine wpAny_bind (absurdE (wpAny_mono (turn i v m' led' s₂ o₁ hlt hv hJ S₂) (fun ok s₃ h₃ => ?_) fun _ _ z => z))
    cases ok with
    | false =>
      obtain ⟨m₃, led₃, S₃, J₃⟩ := h₃
      exact wpAny_pure ⟨rfl, n - (i + 1), by omega, i + 1, m₃, led₃, o₁, rfl, hlt, hit₁, S₃, J₃⟩
    | true =>
      refine wpAny_bind (absurdE (wpAny_mono h₃ (fun _ s₅ h₅ => ?_) fun _ _ z => z))
      obtain ⟨m₃, led₃, S₃, J₃⟩ := h₅
      exact wpAny_pure ⟨rfl, n - (i + 1), by omega, i + 1, m₃, led₃, o₁, rfl, hlt, hit₁, S₃, J₃⟩
  · have e : i = n := by omega
    subst e
    exact absurdE (fin m' led' s' o' _ (hneed _ _ _ hJ) hit S' fun s₁ S₁ => wpAny_pure (done m' led' s₁ hJ S₁))

theorem comp_loopT {e : PySem.Expr} {d : Nat} {p0 : Pos} {x : Str} {px : Pos} {ifs : List PySem.Expr} {actT : Sem Fin} {acc : Value} {I : Addr} {itP : Nat → Obj → Prop} {n : Nat} {val : Nat → Value → Prop} {need : List (Addr × Obj) → Prop} {R : Result → Shared → Prop}
    (J : Nat → (Str → Option Value) → List (Addr × Obj) → Prop)
    (nxt : ∀ i m led s o Q', i < n → need led → itP i o → St C m ((I, o) :: led) s → (∀ v s' o', val i v → itP (i + 1) o' → St C m ((I, o') :: led) s' → Q' (some v) s') → wpAny (model Pr w) A (pyNext (.ref I)) Q' (fun _ _ => False) s)
    (fin : ∀ m led s o Q', need led → itP n o → St C m ((I, o) :: led) s → (∀ s', St C m led s' → Q' none s') → wpAny (model Pr w) A (pyNext (.ref I)) Q' (fun _ _ => False) s)
    (hneed : ∀ i m led, J i m led → need led)
    {o₀ : Obj} (hit₀ : itP 0 o₀) (S : St C m ((I, o₀) :: led) s) (h0 : J 0 m led)
    (turn : ∀ i v m led s o, i < n → val i v → J i m led → St C (upd m x v) ((I, o) :: led) s →
      wpAny (model Pr w) A (testsOf ifs env) (fun ok s₃ => if ok = true then wpAny (model Pr w) A actT (fun fin s₅ => fin = .again (.compLoop e d (.ref I) acc env) ∧ ∃ m' led', St C m' ((I, o) :: led') s₅ ∧ J (i + 1) m' led') (fun _ _ => False) s₃
        else ∃ m' led', St C m' ((I, o) :: led') s₃ ∧ J (i + 1) m' led') (fun _ _ => False) s)
    (done : ∀ m led s, J n m led → St C m led s → R (.ok .next) s)
    (heq : compTurn e d (.ref I) acc env = (do
      standAt p0
      match ← pyNext (.ref I) with
      | none => pure (.done .next)
      | some v =>
        letOwnedTupleGo (.Name x px) (.ref I) v
        assign (.Name x px) env v
        let mut ok := true
        for c in ifs do
          if ok then ok ← isTrue c env (eval c env)
        if ok then actT else again (.compLoop e d (.ref I) acc env)))
    (hfr : (Code.compLoop e d (.ref I) acc env).isFrame = false) (hq : (Code.compLoop e d (.ref I) acc env).quiet = true) (hu : A.under (Code.compLoop e d (.ref I) acc env) = A)
    (hL : env.locals = C.L := by rfl) (hk : env.scope.kind = .function := by rfl) (hx : env.kindOf x = some .local := by kernel_rfl) :
    codeAny (model Pr w) A (.compLoop e d (.ref I) acc env) R s := by
  refine codeAny_loop hq (fun k s' => ∃ i m' led' o', k = n - i ∧ i ≤ n ∧ itP i o' ∧ St C m' ((I, o') :: led') s' ∧ J i m' led') ?_ (n - 0) ⟨0, m, led, o₀, rfl, Nat.zero_le _, hit₀, S, h0⟩
  rintro k s' ⟨i, m', led', o', rfl, hi, hit, S', hJ⟩
  show wpAny _ _ (if (Code.compLoop e d (.ref I) acc env).isFrame then _ else (compTurn e d (.ref I) acc env).onRaise (fun x => do noteFrame x env; theTreesLotGoes x)) _ _ s'
  rw [hfr, if_neg Bool.false_ne_true, hu]
  refine wpAny_noted ?_
  rw [heq]
  refine wpAny_bind (wpAny_standAt (wpAny_bind ?_))
  by_cases hlt : i < n
  · refine absurdE (nxt i m' led' s' o' _ hlt (hneed _ _ _ hJ) hit S' fun v s₁ o₁ hv hit₁ S₁ => ?_)
    refine wpAny_bind (wpAny_of_eq rfl ?_)
    refine wpAny_bind (wpAny_assign_Name (r_store S₁ (fun s₂ S₂ => ?_) hL hk hx))
    refine wpAny_bind (absurdE (wpAny_mono (turn i v m' led' s₂ o₁ hlt hv hJ S₂) (fun ok s₃ h₃ => ?_) fun _ _ z => z))
    cases ok with
    | false =>
      obtain ⟨m₃, led₃, S₃, J₃⟩ := h₃
      exact wpAny_pure ⟨rfl, n - (i + 1), by omega, i + 1, m₃, led₃, o₁, rfl, hlt, hit₁, S₃, J₃⟩
    | true =>
      refine absurdE (wpAny_mono h₃ (fun fin s₅ h₅ => ?_) fun _ _ z => z)
      obtain ⟨rfl, m₃, led₃, S₃, J₃⟩ := h₅
      exact ⟨rfl, n - (i + 1), by omega, i + 1, m₃, led₃, o₁, rfl, hlt, hit₁, S₃, J₃⟩
  · have e : i = n := by omega
    subst e
    exact absurdE (fin m' led' s' o' _ (hneed _ _ _ hJ) hit S' fun s₁ S₁ => wpAny_pure (done m' led' s₁ hJ S₁))

-- into a comprehension's own frame and out of it
theorem St.leave {m₂ : Str → Option Value} {led₂ : List (Addr × Obj)} {s₂ : Shared} {h' : Heap} (S : St C m led s) (S₂ : St (inner C led s) m₂ led₂ s₂) (hs : Heap.SameBut s.heap.objs.size s₂.heap h') : St C m led₂ { s₂ with heap := h' } :=
  have X := S.back S₂.F S₂.N
  ⟨X.1.sameNew S.Llt hs, fun p hp => ⟨hs.extBut _ _ (S₂.N p hp).2.1 (X.2 p hp).1, (X.2 p hp).2⟩, S₂.nd, S.kn, S₂.gn, S₂.os⟩

/-- the comprehension behind its first iterator: a new object, its own names, the start -/
theorem comp_in {e : PySem.Expr} {scope : Scope} {cl : List (Str × Addr)} {I : Addr} {oacc oI : Obj} {newAcc : Sem Value} {Q : Value → Shared → Prop} {g : Comprehension} (S : St C m ((I, oI) :: led) s) (hw : C.w = w)
    (hnew : ∀ (Q' : Value → Shared → Prop) (s : Shared), Q' (.ref s.heap.objs.size) { s with heap := s.heap.push oacc } → wpAny (model Pr w) A newAcc Q' E s) (hof : oacc.isFreed = false)
    (hcell : ∀ y ∈ scope.names, y.2 ≠ .cell) (hkind : scope.kind = .function) (hg : (clausesOf e)[0]? = some g) (ha : (g.is_async != 0) = false)
    (hfr : ∀ it acc env, (Code.compStart e 0 it acc env).isFrame = false) (hu : ∀ it acc env, A.under (Code.compStart e 0 it acc env) = A)
    (hself : ∀ (C' : Cx) m' led' s' (Q' : Value → Shared → Prop), (I, oI) ∈ led' → St C' m' led' s' → Q' (.ref I) s' → wpAny (model Pr w) A (pyIter (.ref I)) Q' (fun _ _ => False) s')
    (h : ∀ (C' : Cx) D s', C'.w = w → (∀ b o, C.g.get? b = some o → C'.g.get? b = some o) → (D == sysModules) = false → St C' (fun _ => none) ((D, oacc) :: (I, oI) :: led) s' →
      codeAny (model Pr w) A (.compLoop e 0 (.ref I) (.ref D) (compEnvC scope cl C'.L env)) (fun r s'' => r = .ok .next ∧ ∃ m' led', St C' m' led' s'' ∧ ∀ s₉, St C m led' s₉ → Q (.ref D) s₉) s') :
    wpAny (model Pr w) A newAcc (fun acc s₃ => wpAny (model Pr w) A (newFunctionEnv scope env.globals cl [] env.qual none .none (some env)) (fun cenv s₄ =>
      codeAny (model Pr w) A (.compStart e 0 (.ref I) acc { cenv with scope := relabel scope env }) (compPost (model Pr w) A E none Q acc cenv.locals) s₄) E s₃) E s := by
  refine hnew _ _ (wpAny_newFunctionEnv hcell (by intro y hy; simp at hy) (fun h₁ hns₁ hsb₁ => ?_) hkind)
  have S1 : St C m ((s.heap.objs.size, oacc) :: (I, oI) :: led) { s with heap := s.heap.push oacc } := S.push oacc hof
  dsimp only at hns₁ hsb₁ ⊢
  have keep : ∀ b o, (s.heap.push oacc).get? b = some o → h₁.get? b = some o := fun b o e => hsb₁.extBut b o (Nat.ne_of_lt (Heap.lt_size e)) (Heap.get?_push_of_some _ e)
  have S2 := S1.enter (tk := s.toks + ([] : List (Str × Value)).length) hns₁ keep
  have hst := S1.stays
  have S3 : St (inner C ((s.heap.objs.size, oacc) :: (I, oI) :: led) { s with heap := s.heap.push oacc }) (fun _ => none) ((s.heap.objs.size, oacc) :: (I, oI) :: led) { s with heap := h₁, toks := s.toks + ([] : List (Str × Value)).length } := S2.cong fun y => rfl
  have key := codeAny_mono (h (inner C _ { s with heap := s.heap.push oacc }) s.heap.objs.size _ hw hst (S.F.notModules (modules_low (let ⟨_, _, t⟩ := S.kn.t; t.nolimit))) S3) (R' := compPost (model Pr w) A E none Q (.ref s.heap.objs.size) (s.heap.push oacc).objs.size) (fun r s'' ⟨er, m'', led'', S'', k⟩ => by
    subst er
    exact ⟨m'', S''.F.ns, fun h' hs => k _ (S1.leave S'' hs)⟩)
  exact comp_start hg ha (hfr _ _ _) (hu _ _ _) key (hself _ _ _ _ _ (.tail _ (.head _)) S3 key)
end
end Mine

-- TyNames
namespace Mine
open PySem PySem.W PyProof.Rows PySem.Calls PySem.Spec
local macro_rules | `(tactic| walk_at "lk") => `(tactic| first
  | (with_reducible exact up_hit)
  | (with_reducible exact bm_hit)
  | ((with_reducible refine up_skip (ofNe (by decide)) ?_); walk_at "lk")
  | ((with_reducible refine bm_skip (ofNe (by decide)) ?_); walk_at "lk")
  | assumption
  | (simp only [upd, bmap, ofString_inj, String.reduceEq, reduceIte]; first | done | rfl | assumption))
local macro_rules | `(tactic| walk_at "mem") => `(tactic| first | exact List.Mem.head _ | assumption | (refine List.Mem.tail _ ?_; walk_at "mem") | (refine List.mem_append_right _ ?_; walk_at "mem"))
local macro_rules | `(tactic| walk_at "go meth") => `(tactic| first
  | ((with_reducible show wpAny _ _ (getMethod (Value.ref _) (Str.ofString "append") _) _ _ _); (refine r_meth (St.get (by assumption) (by walk_at "mem")) rfl rfl PySem.F.plainAttrs_list slot_list_append ?_))
  | ((with_reducible show wpAny _ _ (getMethod (Value.ref _) (Str.ofString "index") _) _ _ _); (refine r_meth (St.get (by assumption) (by walk_at "mem")) rfl rfl PySem.F.plainAttrs_list PySem.F.slot_list_index ?_))
  | (with_reducible refine PySem.GM.join ?_)
  | (with_reducible refine PySem.GM.split ?_)
  | (with_reducible refine PySem.GM.find ?_))
-- one step of the walk by my rules
local macro_rules | `(tactic| walk_at "go name") => `(tactic| first
  | (with_reducible refine r_glob (by assumption) (by first | apply g_tab | apply g_pf | apply g_em | apply g_gi | apply g_nms | apply g_ruler | apply g_told | apply g_beads | apply g_moves | apply g_left | apply g_ways | apply g_count | apply g_du | apply g_ud | apply g_ell) ?_)
  | (with_reducible refine r_bi (by assumption) (by first | apply n_range | apply n_len | apply n_hex | apply n_sum | apply n_set | apply n_list | apply n_sorted) (by first | apply b_range | apply b_len | apply b_hex | apply b_sum | apply b_set | apply b_list | apply b_sorted) ?_)
  | (with_reducible refine r_loc (by assumption) (by walk_at "lk") ?_))
local macro_rules | `(tactic| walk_at "go") => `(tactic| first
  | (with_reducible refine wpAny_execs_cons ?_)
  | (with_reducible refine wpAny_execs_nil ?_)
  | ((with_reducible show wpAny _ _ (exec (Stmt.Assign [PySem.Expr.Name _ _] _ _) _) _ _ _); refine wpAny_Assign_Name ?_)
  | (with_reducible refine wpAny_If ?_)
  | ((with_reducible show wpAny _ _ (exec (Stmt.Expr _ _) _) _ _ _); refine wpAny_Expr ?_)
  | (with_reducible refine wpAny_AugAssign_Name ?_)
  | (with_reducible refine wpAny_Return_some ?_)
  | (with_reducible refine wpAny_Break ?_)
  | ((with_reducible show wpAny _ _ (eval (PySem.Expr.Name _ _) _) _ _ _); walk_at "go name")
  | ((with_reducible show wpAny _ _ (loadName _ _) _ _ _); (with_reducible refine r_locn (by assumption) (by walk_at "lk") ?_))
  | ((with_reducible show wpAny _ _ (storeName _ _ _) _ _ _); (with_reducible refine r_store (by assumption) ?_); intro _ _)
  | ((with_reducible refine r_int (by assumption) ?_); intro _ _ _)
  | ((with_reducible refine r_str (by assumption) ?_); intro _ _ _)
  | (with_reducible refine PyProof.Rows.Constant_bool ?_)
  | (with_reducible refine wpAny_BinOp ?_)
  | ((with_reducible show wpAny _ _ (eval (PySem.Expr.List _ _) _) _ _ _); (with_reducible refine List_ ?_))
  | ((with_reducible show wpAny _ _ (newList _) _ _ _); (refine r_list (by assumption) ?_); intro _ _ _)
  | ((with_reducible show wpAny _ _ (eval (PySem.Expr.Call (PySem.Expr.Attribute _ _ _) _ _ _) _) _ _ _); refine MethodCall_ ?_)
  | ((with_reducible show wpAny _ _ (eval (PySem.Expr.Call (PySem.Expr.Name _ _) _ _ _) _) _ _ _); refine PyProof.Rows.Call_ ?_)
  | ((with_reducible show wpAny _ _ (callWith _ (Value.builtin _) _ _ _) _ _ _); first | (with_reducible refine PyProof.Rows.callWith_method0 ?_) | refine PyProof.Rows.callWith_method1 ?_)
  | ((with_reducible show wpAny _ _ (callWith _ (Value.type _) _ _ _) _ _ _); refine PySem.Pv.callWith_type1 ?_)
  | ((with_reducible show wpAny _ _ (spliced _) _ _ _); first | (with_reducible refine PyProof.Rows.args_nil ?_) | refine PyProof.Rows.args_cons ?_)
  | ((with_reducible refine r_add (by assumption) ?_); intro _ _ _)
  | ((with_reducible refine r_sub (by assumption) ?_); intro _ _ _)
  | ((with_reducible refine r_and (by assumption) ?_); intro _ _ _)
  | ((with_reducible refine r_ixor (by assumption) ?_); intro _ _ _)
  | ((with_reducible refine r_iadd (by assumption) ?_); intro _ _ _)
  | ((with_reducible refine r_range1 (by assumption) ?_); intro _ _ _ _ _ _)
  | ((with_reducible refine r_range2 (by assumption) ?_); intro _ _ _ _ _ _)
  | (with_reducible refine PySem.P.truthy_int ?_)
  | ((with_reducible show wpAny _ _ (isTrue (PySem.Expr.UnaryOp PySem.UnaryOp.Not _ _) _ _) _ _ _); (with_reducible refine isTrue_not ?_))
  | ((with_reducible show wpAny _ _ (isTrue (PySem.Expr.BinOp _ _ _ _) _ _) _ _ _); refine isTrue_plain ?_)
  | ((with_reducible show wpAny _ _ (isTrue (PySem.Expr.Name _ _) _ _) _ _ _); refine isTrue_plain ?_)
  | ((with_reducible show wpAny _ _ (isTrue (PySem.Expr.Call _ _ _ _) _ _) _ _ _); refine isTrue_plain ?_)
  | ((with_reducible show wpAny _ _ (exec (Stmt.For _ _ _ _ _) _) _ _ _); refine wpAny_For ?_)
  | ((with_reducible show wpAny _ _ (getMethod _ _ _) _ _ _); walk_at "go meth")
  | ((with_reducible show wpAny _ _ (isTrue (PySem.Expr.Compare _ [_] [_] _) _ _) _ _ _); refine wpAny_isTrue_Compare1 ?_)
  | ((with_reducible show wpAny _ _ (eval (PySem.Expr.Compare _ [_] [_] _) _) _ _ _); refine wpAny_Compare1 ?_)
  | (with_reducible refine PySem.P.lt_int ?_)
  | (with_reducible refine PySem.P.le_int ?_)
  | (with_reducible refine PySem.P.gt_int ?_)
  | (with_reducible refine PySem.P.ge_int ?_)
  | (with_reducible refine PySem.P.eq_int ?_)
  | (with_reducible refine PySem.P.ne_int ?_)
  | (with_reducible refine PySem.P.notIn_str ?_)
  | (with_reducible refine wpAny_truthy_bool ?_)
  | (with_reducible refine wpAny_IfExp ?_)
  | (with_reducible refine wpAny_UnaryOp ?_)
  | ((with_reducible refine r_neg (by assumption) ?_); intro _ _ _)
  | (with_reducible refine Subscript_ ?_)
  | ((with_reducible show wpAny _ _ (exec (Stmt.Assert _ _ _) _) _ _ _); refine wpAny_Assert rfl ?_)
  | ((with_reducible show wpAny _ _ (eval (PySem.Expr.Tuple _ _ _) _) _ _ _); (with_reducible refine Tuple_ ?_))
  | ((with_reducible show wpAny _ _ (newTuple _) _ _ _); (refine r_tuple (by assumption) ?_); intro _ _ _)
  | ((with_reducible show wpAny _ _ (callWith _ (Value.ref _) _ _ _) _ _ _); first | (with_reducible refine cw_r0 (by assumption) (by kernel_rfl) ?_) | refine cw_r (by assumption) (by kernel_rfl) ?_)
  | ((with_reducible show _ ∧ wpAny _ _ (call _ _) _ _ _); refine ⟨⟨_, _, by assumption⟩, ?_⟩)
  | (with_reducible refine useImp (by assumption) ?_)
  | dsimp only [List.cons_append, List.nil_append])
section
variable {C : Cx} {m : Str → Option Value} {led : List (Addr × Obj)} {s : Shared} {A : Around} {E : Value → Shared → Prop} {w : World} {env : Env}
/-- a list comprehension, up to its first iterable -/
theorem r_lcomp {elt iter target : PySem.Expr} {ifs : List PySem.Expr} {rest : List Comprehension} {scope : Scope} {pos : Pos} {Q : Value → Shared → Prop} (cl : List (Str × Addr))
    (h : wpAny (model Pr w) A (eval iter env) (fun x s₁ => wpAny (model Pr w) A (pyIter x) (fun it s₂ => wpAny (model Pr w) A (newList []) (fun acc s₃ => wpAny (model Pr w) A (newFunctionEnv scope env.globals cl [] env.qual none .none (some env)) (fun cenv s₄ =>
      codeAny (model Pr w) A (.compStart (.ListComp elt (⟨target, iter, ifs, 0⟩ :: rest) scope pos) 0 it acc { cenv with scope := relabel scope env }) (compPost (model Pr w) A E none Q acc cenv.locals) s₄) E s₃) E s₂) E s₁) E s)
    (hs : ∀ x, foldedSetIterable iter env x = pure x := by intro _; rfl) (hclos : closureFor scope env = pure cl := by rfl)
    (hkind : scope.kind = .function := by rfl) (hnames : ∀ x ∈ scope.names, x.2 = .local → scope.names.lookup x.1 = some .local := by decide +kernel) :
    wpAny (model Pr w) A (eval (.ListComp elt (⟨target, iter, ifs, 0⟩ :: rest) scope pos) env) Q E s := by
  rw [eval_ListComp]
  exact wpAny_comprehension_free (use := none) rfl hs hclos hkind hnames h
theorem new_list (Q' : Value → Shared → Prop) (s : Shared) (k : Q' (.ref s.heap.objs.size) { s with heap := s.heap.push (listOf #[] 0) }) : wpAny (model Pr w) A (newList []) Q' E s :=
  wpAny_newObj_type k (by size_fits)
theorem self_range {C' : Cx} {m' : Str → Option Value} {led' : List (Addr × Obj)} {s' : Shared} {I : Addr} {x left : Int} {Q' : Value → Shared → Prop} (hm : (I, rngIt x left) ∈ led') (S' : St C' m' led' s') (k : Q' (.ref I) s') : wpAny (model Pr w) A (pyIter (.ref I)) Q' E s' :=
  wpAny_pyIter_rangeiter (S'.get hm) k
theorem r_iter_rangeB {a b : Int} {n : Nat} {r : Addr} {t u v : Tok} {Q : Value → Shared → Prop} (S : St C m ((r, rngO a b t u v) :: led) s) (hbn : b = a + n) (ha : 0 ≤ a) (hb : b < 2 ^ 62)
    (k : ∀ I s', St C m ((I, rngIt (a + (0 : Nat)) ((n : Int) - (0 : Nat))) :: led) s' → Q (.ref I) s') : wpAny (model Pr w) A (pyIter (.ref r)) Q E s := by
  subst hbn; exact r_iter_range S ha hb k
theorem lst_push {D : Addr} {vs : List Value} {v : Value} {n : Nat} {r : List (Addr × Obj)} : (D, listOf (vs.toArray.push v) n) :: r = (D, listOf (vs ++ [v]).toArray n) :: r := by simp
theorem St.keep1 {p : Addr × Obj} {pre : List (Addr × Obj)} (S : St C m (p :: (pre ++ led)) s) : St C m (p :: led) s :=
  S.sub (fun x h => by rcases List.mem_cons.mp h with rfl | h; exact .head _; exact .tail _ (List.mem_append_right _ h))
    (List.Sublist.nodup (List.Sublist.map _ (List.Sublist.cons_cons _ (List.sublist_append_right pre led))) S.nd)
theorem act_list {acc : Value} {elt : PySem.Expr} {Q : Unit → Shared → Prop} (h : wpAny (model Pr w) A (eval elt env) (fun y s₄ => wpAny (model Pr w) A (call (.builtin "list.append") [acc, y]) (fun _ s₅ => Q () s₅) E s₄) E s) :
    wpAny (model Pr w) A (do let _ ← call (.builtin "list.append") [acc, ← eval elt env]) Q E s :=
  wpAny_bind (wpAny_mono h (fun y s₄ h₄ => wpAny_bind (wpAny_mono h₄ (fun _ s₅ h₅ => wpAny_pure h₅) fun _ _ z => z)) fun _ _ z => z)
theorem r_addl {l b : Addr} {vs ws : List Value} {n k' : Nat} {Q : Value → Shared → Prop} (S : St C m led s) (hl : (l, listOf vs.toArray n) ∈ led) (hb : (b, listOf ws.toArray k') ∈ led) (k : ∀ r s', St C m ((r, listOf (vs ++ ws).toArray 0) :: led) s' → Q (.ref r) s') (hsz : vs.length + ws.length ≤ sizeLine) :
    wpAny (model Pr w) A (binaryOp .Add (.ref l) (.ref b)) Q E s := by
  exact add_lists S.F S.N (isL S hl) (isL S hb) (fun h' F' N' => k _ _ (S.of (k := s.toks) F' N')) hsz
end
set_option maxHeartbeats 8000000 in
theorem names_spec {C : Cx} {m : Str → Option Value} {led : List (Addr × Obj)} {s : Shared} {Q E : Value → Shared → Prop} (S : St C m led s)
    (k : ∀ l nv s', StrsAre nv namesL → St C m ((l, listOf nv.toArray 0) :: led) s' → Q (.ref l) s') :
    wpAny (model Pr C.w) (AU 690 4900) (call (.ref 41) []) Q E s := by
  refine call0 [] S (by rfl) (by kernel_rfl) (by decide) (by rfl) (locs (by rfl)) (by decide +kernel) (by rfl) (by rfl) (by rfl) (by rfl) ?_
  intro C' s' hw hlt hst' S'
  refine impGen fun Q0 hQ0 => ?_
  repeat walk_at "go"
  refine r_addl (by assumption) (by walk_at "mem") (by walk_at "mem") (fun l1 s1 S1 => ?_) (by show 10 ≤ _; decide)
  repeat walk_at "go"
  refine r_lcomp [] ?_
  repeat walk_at "go"
  refine r_iter_rangeB (n := 11) (by assumption) (by decide) (by decide) (by decide) fun I s2 S2 => ?_
  refine comp_in S2 (by first | rfl | assumption) (fun Q' s k => new_list Q' s k) rfl (by decide +kernel) (by rfl) (by rfl) (by rfl) (by intro _ _ _; rfl) (by intro _ _ _; rfl) (fun C' m' led' s' Q' hm S' k => self_range hm S' k) ?_
  intro C2 D s3 hw2 hst2 hD2 S3
  dsimp only [compEnvC, relabel]
  refine comp_loop (p0 := ?_) (px := ?_) (ifs := []) (act := ?_) (fun i m' led' => ∃ vs ep, led' = (D, listOf vs.toArray ep) :: _ ∧ StrsAre vs ((List.range i).map fun j => nm (10 + j)))
    nxt_range (fin_range rfl) (fun _ _ _ _ => trivial) rfl S3.swap ⟨[], 0, rfl, .nil⟩ ?_ ?_ (by rfl) (by rfl) (by rfl) (by rfl)
  · rintro i v m₅ led₅ s₅ o hi ⟨t, rfl⟩ ⟨vs, ep, rfl, hvs⟩ S₅
    refine wpAny_tests_nil ?_
    rw [if_pos rfl]
    refine act_list ?_
    have hvl : vs.length = i := by rw [hvs.length]; simp
    repeat walk_at "go"
    refine r_pow ((2 ^ (10 + i) : Nat) : Int) (by assumption) (by omega) (by omega) (by decide) (by rw [show ((10 : Int) + (i : Int)).toNat = 10 + i from by omega]; push_cast; rfl) ?_
    intro _ _ _
    repeat walk_at "go"
    refine r_hex (by assumption) (Nat.le_trans (hex_len (10 + i) (by omega)) (by decide)) ?_
    intro _ _ _
    repeat walk_at "go"
    refine r_append1 (by assumption) (by simp [sizeLine_eq]; omega) ?_
    intro s₆ S₆
    refine ⟨_, _, S₆, vs ++ [_], ep + 1, lst_push, ?_⟩
    rw [List.range_succ, List.map_append]
    refine hvs.append' ?_
    have : PySem.baseText "0x" 16 ((2 ^ (10 + i) : Nat) : Int) = nm (10 + i) := by
      unfold nm
      rw [List.getElem?_eq_none (by show 10 ≤ _; omega)]
    show StrsAre _ [nm (10 + i)]
    rw [← this]
    exact .cons _ _ .nil
  · rintro m₅ led₅ s₅ ⟨vs, ep, rfl, hvs⟩ S₅
    refine ⟨rfl, _, _, S₅, fun s₉ S₉ => ?_⟩
    refine r_addl (by assumption) (by walk_at "mem") (by walk_at "mem") (fun l2 s10 S10 => ?_) ?_
    · repeat walk_at "go"
      refine Ret.mk (St.keep1 (pre := [_, _, _, _]) S10) fun Z => k l2 _ s10 ?_ Z
      have e : namesL = [Str.ofString "OPTIMIZED", Str.ofString "NEWLOCALS", Str.ofString "VARARGS", Str.ofString "VARKEYWORDS", Str.ofString "NESTED", Str.ofString "GENERATOR", Str.ofString "NOFREE", Str.ofString "COROUTINE", Str.ofString "ITERABLE_COROUTINE", Str.ofString "ASYNC_GENERATOR"] ++ (List.range 11).map fun j => nm (10 + j) := by decide +kernel
      rw [e]
      exact StrsAre.append' (.cons _ _ (.cons _ _ (.cons _ _ (.cons _ _ (.cons _ _ (.cons _ _ (.cons _ _ (.cons _ _ (.cons _ _ (.cons _ _ .nil)))))))))) hvs
    · have hvl : vs.length = 11 := by rw [hvs.length]; rfl
      rw [hvl]; show 21 ≤ _; decide
end Mine

-- TyDict
namespace Mine
open PySem PySem.W PyProof.Rows PySem.Calls PySem.Spec
/-- the dict's pairs: texts of rows of beads, and counts -/
inductive KV : List (Str × Value) → List (Nat × Int) → Prop
  | nil : KV [] []
  | cons {M : Nat} {c : Int} {t : Tok} {kvs : List (Str × Value)} {sm : List (Nat × Int)} : 0 < M → M < 2 ^ 21 → KV kvs sm → KV ((T (bitsOf M), .int c t) :: kvs) ((M, c) :: sm)
structure DV (w : World) (d : Addr) (o : Obj) (sm : List (Nat × Int)) : Prop where
  ns : (d == sysModules) = false
  dk : ∃ kvs, o.IsDictOf (strKind Pr w) kvs ∧ KV kvs sm
theorem map_nm_inj : ∀ {a b : List Nat}, (∀ x ∈ a, x < 21) → (∀ x ∈ b, x < 21) → a.map nm = b.map nm → a = b
  | [], [], _, _, _ => rfl
  | [], _ :: _, _, _, h => by cases h
  | _ :: _, [], _, _, h => by cases h
  | x :: a, y :: b, ha, hb, h => by
    rw [List.map_cons, List.map_cons, List.cons.injEq] at h
    rw [nm_inj x (ha x (.head _)) y (hb y (.head _)) h.1, map_nm_inj (fun z hz => ha z (.tail _ hz)) (fun z hz => hb z (.tail _ hz)) h.2]
theorem bits_inj {M N : Nat} (hM : M < 2 ^ 21) (hN : N < 2 ^ 21) (h : bitsOf M = bitsOf N) : M = N := by
  refine Nat.eq_of_testBit_eq fun i => ?_
  by_cases hi : i < 21
  · have h1 : i ∈ bitsOf M ↔ i ∈ bitsOf N := by rw [h]
    rw [bitsOf_mem, bitsOf_mem] at h1
    rw [Bool.eq_iff_iff]
    exact ⟨fun q => (h1.mp ⟨hi, q⟩).2, fun q => (h1.mpr ⟨hi, q⟩).2⟩
  · have hp : 2 ^ 21 ≤ 2 ^ i := Nat.pow_le_pow_right (by decide) (by omega)
    rw [Nat.testBit_lt_two_pow (Nat.lt_of_lt_of_le hM hp), Nat.testBit_lt_two_pow (Nat.lt_of_lt_of_le hN hp)]
theorem TB_inj {M N : Nat} (h0 : 0 < M) (hM : M < 2 ^ 21) (h1 : 0 < N) (hN : N < 2 ^ 21) (h : T (bitsOf M) = T (bitsOf N)) : M = N := by
  have e1 := T_split (bitsOf_ne h0 hM) bitsOf_lt
  have e2 := T_split (bitsOf_ne h1 hN) bitsOf_lt
  rw [h, e2] at e1
  exact bits_inj hM hN (map_nm_inj bitsOf_lt bitsOf_lt e1.symm)
def getN (sm : List (Nat × Int)) (M : Nat) : Option Int := (sm.find? fun p => p.1 = M).map (·.2)
def putN (sm : List (Nat × Int)) (M : Nat) (v : Int) : List (Nat × Int) := if sm.any (fun p => p.1 = M) then sm.map (fun p => if p.1 = M then (p.1, v) else p) else sm ++ [(M, v)]
theorem KV.any {kvs : List (Str × Value)} {sm : List (Nat × Int)} (h : KV kvs sm) {M : Nat} (h0 : 0 < M) (hM : M < 2 ^ 21) : (kvs.any fun kv => decide (kv.1 = T (bitsOf M))) = sm.any fun p => decide (p.1 = M) := by
  induction h with
  | nil => rfl
  | @cons N c t kvs sm h1 h2 _ ih =>
    rw [List.any_cons, List.any_cons, ih]
    congr 1
    exact decide_eq_decide.mpr ⟨fun e => TB_inj h1 h2 h0 hM e, fun e => by rw [show N = M from e]⟩
theorem KV.snoc {kvs : List (Str × Value)} {sm : List (Nat × Int)} (h : KV kvs sm) {M : Nat} (h0 : 0 < M) (hM : M < 2 ^ 21) (c : Int) (t : Tok) : KV (kvs ++ [(T (bitsOf M), .int c t)]) (sm ++ [(M, c)]) := by
  induction h with
  | nil => exact .cons h0 hM .nil
  | cons h1 h2 _ ih => exact .cons h1 h2 ih
theorem KV.mapped {kvs : List (Str × Value)} {sm : List (Nat × Int)} (h : KV kvs sm) {M : Nat} (h0 : 0 < M) (hM : M < 2 ^ 21) (c : Int) (t : Tok) :
    KV (kvs.map fun kv => if kv.1 = T (bitsOf M) then (kv.1, .int c t) else kv) (sm.map fun p => if p.1 = M then (p.1, c) else p) := by
  induction h with
  | nil => exact .nil
  | @cons N c' t' kvs sm h1 h2 _ ih =>
    rw [List.map_cons, List.map_cons]
    by_cases e : N = M
    · subst e; rw [if_pos rfl, if_pos rfl]; exact .cons h1 h2 ih
    · rw [if_neg (fun q => e (TB_inj h1 h2 h0 hM q)), if_neg e]; exact .cons h1 h2 ih
theorem KV.stored {kvs : List (Str × Value)} {sm : List (Nat × Int)} (h : KV kvs sm) {M : Nat} (h0 : 0 < M) (hM : M < 2 ^ 21) (c : Int) (t : Tok) : KV (PySem.stored kvs (T (bitsOf M)) (.int c t)) (putN sm M c) := by
  unfold PySem.stored putN
  rw [h.any h0 hM]
  split
  · exact h.mapped h0 hM c t
  · exact h.snoc h0 hM c t
theorem KV.valueAt {kvs : List (Str × Value)} {sm : List (Nat × Int)} (h : KV kvs sm) {M : Nat} (h0 : 0 < M) (hM : M < 2 ^ 21) : (PySem.valueAt kvs (T (bitsOf M)) = none ∧ getN sm M = none) ∨ ∃ c t, PySem.valueAt kvs (T (bitsOf M)) = some (.int c t) ∧ getN sm M = some c := by
  induction h with
  | nil => exact .inl ⟨rfl, rfl⟩
  | @cons N c t kvs sm h1 h2 _ ih =>
    unfold PySem.valueAt getN at ih ⊢
    rw [List.find?_cons, List.find?_cons]
    by_cases e : N = M
    · subst e; exact .inr ⟨c, t, by simp, by simp⟩
    · have e1 : decide (T (bitsOf N) = T (bitsOf M)) = false := decide_eq_false fun q => e (TB_inj h1 h2 h0 hM q)
      have e2 : decide (N = M) = false := decide_eq_false e
      simp only [e1, e2]
      exact ih
theorem KV.length {kvs : List (Str × Value)} {sm : List (Nat × Int)} (h : KV kvs sm) : kvs.length = sm.length := by
  induction h with
  | nil => rfl
  | cons _ _ _ ih => simp [ih]
theorem strK (w : World) (x : Str) (t : Tok) : (strKind Pr w).is x (.str x t) = true := by simp [PySem.strKind, Value.isStrOf]
section
variable {C : Cx} {m : Str → Option Value} {led : List (Addr × Obj)} {s : Shared} {A : Around} {E : Value → Shared → Prop} {w : World} {env : Env}
theorem St.notMod (S : St C m led s) : (s.heap.objs.size == sysModules) = false := by
  obtain ⟨_, _, t⟩ := S.kn.t
  exact S.F.notModules (modules_low t.nolimit)
theorem r_dict0 {pos : Pos} {Q : Value → Shared → Prop} (S : St C m led s) (k : ∀ d o s', DV w d o [] → St C m ((d, o) :: led) s' → Q (.ref d) s') : wpAny (model Pr w) A (eval (.Dict [] [] pos) env) Q E s := by
  obtain ⟨_, _, t⟩ := S.kn.t
  refine Dict_empty_made2 S.F S.N (modules_low t.nolimit) fun h' o F' N' lo a b c e _ => k _ o _ ⟨lo, [], a, .nil⟩ (S.of (k := s.toks) F' N')
theorem DV.at {d : Addr} {o : Obj} {sm : List (Nat × Int)} (D : DV w d o sm) (S : St C m led s) (hm : (d, o) ∈ led) : ∃ kvs, s.heap.DictOf (strKind Pr w) d kvs ∧ KV kvs sm :=
  let ⟨kvs, a, b⟩ := D.dk; ⟨kvs, Heap.dictOf_iff.mpr ⟨o, S.get hm, a⟩, b⟩
theorem r_dget {d : Addr} {o : Obj} {sm : List (Nat × Int)} {M : Nat} {t u : Tok} {c0 : Int} {Q : Value → Shared → Prop} (S : St C m led s) (hm : (d, o) ∈ led) (D : DV w d o sm) (h0 : 0 < M) (hM : M < 2 ^ 21)
    (k : ∀ t s', St C m led s' → Q (.int ((getN sm M).getD c0) t) s') : wpAny (model Pr w) A (call (.builtin "dict.get") [.ref d, .str (T (bitsOf M)) t, .int c0 u]) Q E s := by
  obtain ⟨kvs, hd, hkv⟩ := D.at S hm
  refine call_meetsIn PySem.F.slot_dict_get hd.typeIs PySem.F.entry_dict_get (PySem.F.args_dict_get_3 _ _ _) (meets_dict_get_default (knd := strKind Pr w) (d := d) (hkey := strK w _ t) (hd := D.ns) (dflt := .int c0 u)) ⟨_, hd.mapOf, ?_⟩
  rcases hkv.valueAt h0 hM with ⟨e1, e2⟩ | ⟨c, t', e1, e2⟩
  · have := k u _ (S.toks (s.toks + 1)); rw [e2] at this; rw [e1]; exact this
  · have := k t' _ (S.toks (s.toks + 1)); rw [e2] at this; rw [e1]; exact this
theorem r_ditem {d : Addr} {o : Obj} {sm : List (Nat × Int)} {M : Nat} {t : Tok} {c : Int} {value slice : PySem.Expr} {Q : Value → Shared → Prop} (S : St C m led s) (hm : (d, o) ∈ led) (D : DV w d o sm) (h0 : 0 < M) (hM : M < 2 ^ 21) (hc : getN sm M = some c)
    (k : ∀ t s', St C m led s' → Q (.int c t) s')
    (hs : subscripted slice false (.ref d) (.str (T (bitsOf M)) t) = operate [.ref d, .str (T (bitsOf M)) t] (getItem (.ref d) (.str (T (bitsOf M)) t)) := by with_unfolding_all rfl) :
    wpAny (model Pr w) A (subscriptTail value slice (.ref d) (.str (T (bitsOf M)) t)) Q E s := by
  obtain ⟨kvs, hd, hkv⟩ := D.at S hm
  rcases hkv.valueAt h0 hM with ⟨e1, e2⟩ | ⟨c', t', e1, e2⟩
  · rw [hc] at e2; cases e2
  · rw [hc] at e2; cases e2
    exact tail_any hd.typeIs slot_dict_getitem.lookup (wpAny_getItem_of (strK w _ t) hd.mapOf e1 (k t' _ (S.toks (s.toks + 1)))) hs
theorem r_dset {d : Addr} {o : Obj} {sm : List (Nat × Int)} {M : Nat} {t u : Tok} {c : Int} {Q : Unit → Shared → Prop} (S : St C m ((d, o) :: led) s) (D : DV w d o sm) (h0 : 0 < M) (hM : M < 2 ^ 21) (hsz : sm.length ≤ 2 ^ 20)
    (k : ∀ o' s', DV w d o' (putN sm M c) → St C m ((d, o') :: led) s' → Q () s') : wpAny (model Pr w) A (setItem (.ref d) (.str (T (bitsOf M)) t) (.int c u)) Q E s := by
  obtain ⟨kvs, hd, hkv⟩ := D.at S (.head _)
  refine wpAny_setItem_pairs (strK w _ t) hd (fun h' hd' hs => ?_) (by rw [hkv.length, sizeLine_eq]; omega)
  obtain ⟨o', ho', hk'⟩ := Heap.dictOf_iff.mp hd'
  exact k o' _ ⟨D.ns, _, hk', hkv.stored h0 hM c u⟩ (S.chg (tk := s.toks + 1) hs ho')
end
end Mine

-- TyLeft
namespace Mine
open PySem PySem.W PyProof.Rows PySem.Calls PySem.Spec
local macro_rules | `(tactic| walk_at "lk") => `(tactic| first
  | (with_reducible exact up_hit)
  | (with_reducible exact bm_hit)
  | ((with_reducible refine up_skip (ofNe (by decide)) ?_); walk_at "lk")
  | ((with_reducible refine bm_skip (ofNe (by decide)) ?_); walk_at "lk")
  | assumption
  | (simp only [upd, bmap, ofString_inj, String.reduceEq, reduceIte]; first | done | rfl | assumption))
local macro_rules | `(tactic| walk_at "mem") => `(tactic| first | exact List.Mem.head _ | assumption | (refine List.Mem.tail _ ?_; walk_at "mem") | (refine List.mem_append_right _ ?_; walk_at "mem"))
local macro_rules | `(tactic| walk_at "go meth") => `(tactic| first
  | ((with_reducible show wpAny _ _ (getMethod (Value.ref _) (Str.ofString "append") _) _ _ _); (refine r_meth (St.get (by assumption) (by walk_at "mem")) rfl rfl PySem.F.plainAttrs_list slot_list_append ?_))
  | ((with_reducible show wpAny _ _ (getMethod (Value.ref _) (Str.ofString "index") _) _ _ _); (refine r_meth (St.get (by assumption) (by walk_at "mem")) rfl rfl PySem.F.plainAttrs_list PySem.F.slot_list_index ?_))
  | (with_reducible refine PySem.GM.join ?_)
  | (with_reducible refine PySem.GM.split ?_)
  | (with_reducible refine PySem.GM.find ?_))
-- one step of the walk by my rules
local macro_rules | `(tactic| walk_at "go name") => `(tactic| first
  | (with_reducible refine r_glob (by assumption) (by first | apply g_tab | apply g_pf | apply g_em | apply g_gi | apply g_nms | apply g_ruler | apply g_told | apply g_beads | apply g_moves | apply g_left | apply g_ways | apply g_count | apply g_du | apply g_ud | apply g_ell) ?_)
  | (with_reducible refine r_bi (by assumption) (by first | apply n_range | apply n_len | apply n_hex | apply n_sum | apply n_set | apply n_list | apply n_sorted) (by first | apply b_range | apply b_len | apply b_hex | apply b_sum | apply b_set | apply b_list | apply b_sorted) ?_)
  | (with_reducible refine r_loc (by assumption) (by walk_at "lk") ?_))
local macro_rules | `(tactic| walk_at "go") => `(tactic| first
  | (with_reducible refine wpAny_execs_cons ?_)
  | (with_reducible refine wpAny_execs_nil ?_)
  | ((with_reducible show wpAny _ _ (exec (Stmt.Assign [PySem.Expr.Name _ _] _ _) _) _ _ _); refine wpAny_Assign_Name ?_)
  | (with_reducible refine wpAny_If ?_)
  | ((with_reducible show wpAny _ _ (exec (Stmt.Expr _ _) _) _ _ _); refine wpAny_Expr ?_)
  | (with_reducible refine wpAny_AugAssign_Name ?_)
  | (with_reducible refine wpAny_Return_some ?_)
  | (with_reducible refine wpAny_Break ?_)
  | ((with_reducible show wpAny _ _ (eval (PySem.Expr.Name _ _) _) _ _ _); walk_at "go name")
  | ((with_reducible show wpAny _ _ (loadName _ _) _ _ _); (with_reducible refine r_locn (by assumption) (by walk_at "lk") ?_))
  | ((with_reducible show wpAny _ _ (storeName _ _ _) _ _ _); (with_reducible refine r_store (by assumption) ?_); intro _ _)
  | ((with_reducible refine r_int (by assumption) ?_); intro _ _ _)
  | ((with_reducible refine r_str (by assumption) ?_); intro _ _ _)
  | (with_reducible refine PyProof.Rows.Constant_bool ?_)
  | (with_reducible refine wpAny_BinOp ?_)
  | ((with_reducible show wpAny _ _ (eval (PySem.Expr.List _ _) _) _ _ _); (with_reducible refine List_ ?_))
  | ((with_reducible show wpAny _ _ (newList _) _ _ _); (refine r_list (by assumption) ?_); intro _ _ _)
  | ((with_reducible show wpAny _ _ (eval (PySem.Expr.Call (PySem.Expr.Attribute _ _ _) _ _ _) _) _ _ _); refine MethodCall_ ?_)
  | ((with_reducible show wpAny _ _ (eval (PySem.Expr.Call (PySem.Expr.Name _ _) _ _ _) _) _ _ _); refine PyProof.Rows.Call_ ?_)
  | ((with_reducible show wpAny _ _ (callWith _ (Value.builtin _) _ _ _) _ _ _); first | (with_reducible refine PyProof.Rows.callWith_method0 ?_) | refine PyProof.Rows.callWith_method1 ?_)
  | ((with_reducible show wpAny _ _ (callWith _ (Value.type _) _ _ _) _ _ _); refine PySem.Pv.callWith_type1 ?_)
  | ((with_reducible show wpAny _ _ (spliced _) _ _ _); first | (with_reducible refine PyProof.Rows.args_nil ?_) | refine PyProof.Rows.args_cons ?_)
  | ((with_reducible refine r_add (by assumption) ?_); intro _ _ _)
  | ((with_reducible refine r_sub (by assumption) ?_); intro _ _ _)
  | ((with_reducible refine r_and (by assumption) ?_); intro _ _ _)
  | ((with_reducible refine r_ixor (by assumption) ?_); intro _ _ _)
  | ((with_reducible refine r_iadd (by assumption) ?_); intro _ _ _)
  | ((with_reducible refine r_range1 (by assumption) ?_); intro _ _ _ _ _ _)
  | ((with_reducible refine r_range2 (by assumption) ?_); intro _ _ _ _ _ _)
  | (with_reducible refine PySem.P.truthy_int ?_)
  | ((with_reducible show wpAny _ _ (isTrue (PySem.Expr.UnaryOp PySem.UnaryOp.Not _ _) _ _) _ _ _); (with_reducible refine isTrue_not ?_))
  | ((with_reducible show wpAny _ _ (isTrue (PySem.Expr.BinOp _ _ _ _) _ _) _ _ _); refine isTrue_plain ?_)
  | ((with_reducible show wpAny _ _ (isTrue (PySem.Expr.Name _ _) _ _) _ _ _); refine isTrue_plain ?_)
  | ((with_reducible show wpAny _ _ (isTrue (PySem.Expr.Call _ _ _ _) _ _) _ _ _); refine isTrue_plain ?_)
  | ((with_reducible show wpAny _ _ (exec (Stmt.For _ _ _ _ _) _) _ _ _); refine wpAny_For ?_)
  | ((with_reducible show wpAny _ _ (getMethod _ _ _) _ _ _); walk_at "go meth")
  | ((with_reducible show wpAny _ _ (isTrue (PySem.Expr.Compare _ [_] [_] _) _ _) _ _ _); refine wpAny_isTrue_Compare1 ?_)
  | ((with_reducible show wpAny _ _ (eval (PySem.Expr.Compare _ [_] [_] _) _) _ _ _); refine wpAny_Compare1 ?_)
  | (with_reducible refine PySem.P.lt_int ?_)
  | (with_reducible refine PySem.P.le_int ?_)
  | (with_reducible refine PySem.P.gt_int ?_)
  | (with_reducible refine PySem.P.ge_int ?_)
  | (with_reducible refine PySem.P.eq_int ?_)
  | (with_reducible refine PySem.P.ne_int ?_)
  | (with_reducible refine PySem.P.notIn_str ?_)
  | (with_reducible refine wpAny_truthy_bool ?_)
  | (with_reducible refine wpAny_IfExp ?_)
  | (with_reducible refine wpAny_UnaryOp ?_)
  | ((with_reducible refine r_neg (by assumption) ?_); intro _ _ _)
  | (with_reducible refine Subscript_ ?_)
  | ((with_reducible show wpAny _ _ (exec (Stmt.Assert _ _ _) _) _ _ _); refine wpAny_Assert rfl ?_)
  | ((with_reducible show wpAny _ _ (eval (PySem.Expr.Tuple _ _ _) _) _ _ _); (with_reducible refine Tuple_ ?_))
  | ((with_reducible show wpAny _ _ (newTuple _) _ _ _); (refine r_tuple (by assumption) ?_); intro _ _ _)
  | ((with_reducible show wpAny _ _ (callWith _ (Value.ref _) _ _ _) _ _ _); first | (with_reducible refine cw_r0 (by assumption) (by kernel_rfl) ?_) | refine cw_r (by assumption) (by kernel_rfl) ?_)
  | ((with_reducible show _ ∧ wpAny _ _ (call _ _) _ _ _); refine ⟨⟨_, _, by assumption⟩, ?_⟩)
  | (with_reducible refine useImp (by assumption) ?_)
  | dsimp only [List.cons_append, List.nil_append])
theorem KV.get {kvs : List (Str × Value)} {sm : List (Nat × Int)} (h : KV kvs sm) : ∀ (i M : Nat) (c : Int), sm[i]? = some (M, c) → 0 < M ∧ M < 2 ^ 21 ∧ ∃ t, kvs[i]? = some (T (bitsOf M), Value.int c t) := by
  induction h with
  | nil => intro i M c e; cases e
  | @cons N c' t kvs sm h1 h2 _ ih =>
    intro i M c e
    cases i with
    | zero => cases e; exact ⟨h1, h2, t, rfl⟩
    | succ i => exact ih i M c e
theorem KV.keys {kvs : List (Str × Value)} {sm : List (Nat × Int)} (h : KV kvs sm) (hn : (kvs.map (·.1)).Nodup) : (sm.map (·.1)).Nodup := by
  induction h with
  | nil => exact List.nodup_nil
  | @cons N c' t kvs sm h1 h2 hk ih =>
    rw [List.map_cons, List.nodup_cons] at hn ⊢
    refine ⟨fun q => hn.1 ?_, ih hn.2⟩
    obtain ⟨p, hp, e⟩ := List.mem_map.mp q
    obtain ⟨i, hi⟩ := List.getElem?_of_mem hp
    obtain ⟨_, _, t', ht⟩ := hk.get i p.1 p.2 hi
    refine List.mem_map.mpr ⟨_, List.mem_of_getElem? ht, ?_⟩
    rw [show p.1 = N from e]
theorem getN_of {sm : List (Nat × Int)} (hn : (sm.map (·.1)).Nodup) : ∀ (i M : Nat) (c : Int), sm[i]? = some (M, c) → getN sm M = some c := by
  induction sm with
  | nil => intro i M c e; cases e
  | cons p sm ih =>
    intro i M c e
    rw [List.map_cons, List.nodup_cons] at hn
    unfold getN at ih ⊢
    rw [List.find?_cons]
    cases i with
    | zero => cases e; simp
    | succ i =>
      have hne : ¬ p.1 = M := fun q => hn.1 (q ▸ List.mem_map.mpr ⟨(M, c), List.mem_of_getElem? e, rfl⟩)
      rw [decide_eq_false hne]
      exact ih hn.2 i M c e
theorem putN_new {sm : List (Nat × Int)} {M : Nat} {c : Int} (h : M ∉ sm.map (·.1)) : putN sm M c = sm ++ [(M, c)] := by
  unfold putN
  rw [if_neg]
  intro q
  obtain ⟨p, hp, e⟩ := List.any_eq_true.mp q
  exact h (List.mem_map.mpr ⟨p, hp, of_decide_eq_true e⟩)
section
variable {C : Cx} {m : Str → Option Value} {led : List (Addr × Obj)} {s : Shared} {A : Around} {E : Value → Shared → Prop} {w : World} {env : Env}
theorem DV.nodup {d : Addr} {o : Obj} {sm : List (Nat × Int)} (D : DV w d o sm) : (sm.map (·.1)).Nodup :=
  let ⟨_, ⟨_, _, _, _, _, _, hn⟩, b⟩ := D.dk; b.keys hn
abbrev keyIt (d : Addr) (i n ep : Nat) : Obj := { cls := .type "dict_keyiterator", data := .fields #[.ref d, .int (i : Int) 0, .int (n : Int) 0, .int (ep : Int) 0] }
def isKeyIt (d : Addr) (n ep i : Nat) (o : Obj) : Prop := o.cls = .type "dict_keyiterator" ∧ o.data = .fields #[.ref d, .int (i : Int) 0, .int (n : Int) 0, .int (ep : Int) 0]
/-- what the iterator's rules need of the dict -/
def KeyOk (w : World) (d : Addr) (o : Obj) (sm : List (Nat × Int)) (ep : Nat) : Prop := ∃ es kvs, o.ExactDict ∧ o.data = .dict es ep ∧ KeysOf (strKind Pr w) es ∧ Pairs (strKind Pr w) es.toList kvs ∧ (kvs.map (·.1)).Nodup ∧ KV kvs sm
theorem DV.keyOk {d : Addr} {o : Obj} {sm : List (Nat × Int)} (D : DV w d o sm) : ∃ ep, KeyOk w d o sm ep :=
  let ⟨kvs, ⟨es, ep, a, b, c, e, f⟩, g⟩ := D.dk; ⟨ep, es, kvs, a, b, c, e, f, g⟩
theorem r_iter_dict {d : Addr} {o : Obj} {sm : List (Nat × Int)} {ep : Nat} {Q : Value → Shared → Prop} (S : St C m led s) (hm : (d, o) ∈ led) (D : DV w d o sm) (K : KeyOk w d o sm ep)
    (k : ∀ I s', St C m ((I, keyIt d 0 sm.length ep) :: led) s' → Q (.ref I) s') : wpAny (model Pr w) A (pyIter (.ref d)) Q E s := by
  obtain ⟨es, kvs, a, b, c, e, f, g⟩ := K
  refine wpAny_pyIter_dict (knd := strKind Pr w) (kvs := kvs) (ep := ep) D.ns ⟨o, es, S.get hm, a, b, c, e, f⟩ ?_
  rw [g.length]
  exact k _ _ (S.push _)
theorem nxt_dict {d : Addr} {o : Obj} {sm : List (Nat × Int)} {ep : Nat} (K : KeyOk w d o sm ep) {I : Addr} : ∀ i m led s oI (Q' : Option Value → Shared → Prop), i < sm.length → (d, o) ∈ led → isKeyIt d sm.length ep i oI → St C m ((I, oI) :: led) s →
    (∀ v s' o', (∃ M c t, sm[i]? = some (M, c) ∧ 0 < M ∧ M < 2 ^ 21 ∧ v = .str (T (bitsOf M)) t) → isKeyIt d sm.length ep (i + 1) o' → St C m ((I, o') :: led) s' → Q' (some v) s') → wpAny (model Pr w) A (pyNext (.ref I)) Q' (fun _ _ => False) s := by
  intro i m led s oI Q' hi hmem e0 S k
  obtain ⟨es, kvs, a, b, c, e, f, g⟩ := K
  obtain ⟨⟨M, cc⟩, hx⟩ : ∃ p, sm[i]? = some p := ⟨_, List.getElem?_eq_getElem hi⟩
  obtain ⟨hM0, hM, t, hk⟩ := g.get i M cc hx
  refine wpAny_pyNext_dict_item (knd := strKind Pr w) (kvs := kvs) (ep := ep) ⟨oI, S.get (.head _), e0.1, by rw [g.length]; exact e0.2⟩ ⟨o, es, S.get (.tail _ hmem), a, b, c, e, f⟩ hk fun key h' hkey hit' hs => ?_
  obtain ⟨o', ho', hc', hd'⟩ := hit'
  obtain ⟨t', rfl⟩ := Value.isStrOf_shape (show Value.isStrOf _ key = true from hkey)
  rw [g.length] at hd'
  exact k _ _ o' ⟨M, cc, t', hx, hM0, hM, rfl⟩ ⟨hc', hd'⟩ (S.chg (tk := s.toks) hs ho')
theorem fin_dict {d : Addr} {o : Obj} {sm : List (Nat × Int)} {ep : Nat} (K : KeyOk w d o sm ep) {I : Addr} (hh : A.handled = none) : ∀ m led s oI (Q' : Option Value → Shared → Prop), (d, o) ∈ led → isKeyIt d sm.length ep sm.length oI → St C m ((I, oI) :: led) s →
    (∀ s', St C m led s' → Q' none s') → wpAny (model Pr w) A (pyNext (.ref I)) Q' (fun _ _ => False) s := by
  intro m led s oI Q' hmem e0 S k
  obtain ⟨es, kvs, a, b, c, e, f, g⟩ := K
  exact wpAny_pyNext_dict_end (knd := strKind Pr w) (kvs := kvs) (ep := ep) (i := sm.length) hh ⟨oI, S.get (.head _), e0.1, by rw [g.length]; exact e0.2⟩ ⟨o, es, S.get (.tail _ hmem), a, b, c, e, f⟩ (by simp [g.length]) fun h' hs => k _ (S.ext (tk := s.toks) hs)
theorem self_key {C' : Cx} {m' : Str → Option Value} {led' : List (Addr × Obj)} {s' : Shared} {I d : Addr} {i n ep : Nat} {Q' : Value → Shared → Prop} (hm : (I, keyIt d i n ep) ∈ led') (S' : St C' m' led' s') (k : Q' (.ref I) s') : wpAny (model Pr w) A (pyIter (.ref I)) Q' E s' :=
  wpAny_pyIter_keyiter ⟨_, S'.get hm, rfl, rfl⟩ k
theorem r_dictSet {d : Addr} {o : Obj} {sm : List (Nat × Int)} {M : Nat} {t u : Tok} {c : Int} {Q : Unit → Shared → Prop} (S : St C m ((d, o) :: led) s) (D : DV w d o sm) (h0 : 0 < M) (hM : M < 2 ^ 21) (hsz : sm.length ≤ 2 ^ 20)
    (k : ∀ o' s', DV w d o' (putN sm M c) → St C m ((d, o') :: led) s' → Q () s') : wpAny (model Pr w) A (dictSet d (.str (T (bitsOf M)) t) (.int c u)) Q E s := by
  obtain ⟨kvs, hd, hkv⟩ := D.at S (.head _)
  refine wpAny_dictSet_pairs (hsz := by rw [hkv.length, sizeLine_eq]; omega) (strK w _ t) hd (fun h' hd' hs => ?_)
  obtain ⟨o', ho', hk'⟩ := Heap.dictOf_iff.mp hd'
  exact k o' _ ⟨D.ns, _, hk', hkv.stored h0 hM c u⟩ (S.chg hs ho')
/-- a dict comprehension, up to its first iterable -/
theorem r_dcomp {kx vx iter target : PySem.Expr} {ifs : List PySem.Expr} {rest : List Comprehension} {scope : Scope} {pos : Pos} {Q : Value → Shared → Prop} (cl : List (Str × Addr))
    (h : wpAny (model Pr w) A (eval iter env) (fun x s₁ => wpAny (model Pr w) A (pyIter x) (fun it s₂ => wpAny (model Pr w) A newDict (fun acc s₃ => wpAny (model Pr w) A (newFunctionEnv scope env.globals cl [] env.qual none .none (some env)) (fun cenv s₄ =>
      codeAny (model Pr w) A (.compStart (.DictComp kx vx (⟨target, iter, ifs, 0⟩ :: rest) scope pos) 0 it acc { cenv with scope := relabel scope env }) (compPost (model Pr w) A E none Q acc cenv.locals) s₄) E s₃) E s₂) E s₁) E s)
    (hs : ∀ x, foldedSetIterable iter env x = pure x := by intro _; rfl) (hclos : closureFor scope env = pure cl := by rfl)
    (hkind : scope.kind = .function := by rfl) (hnames : ∀ x ∈ scope.names, x.2 = .local → scope.names.lookup x.1 = some .local := by decide +kernel) :
    wpAny (model Pr w) A (eval (.DictComp kx vx (⟨target, iter, ifs, 0⟩ :: rest) scope pos) env) Q E s := by
  rw [arm_eval_DictComp]
  exact wpAny_comprehension_free (use := none) rfl hs hclos hkind hnames h
abbrev emptyD : Obj := { cls := .type "dict", dict := none, data := .dict #[] }
theorem new_dict (Q' : Value → Shared → Prop) (s : Shared) (k : Q' (.ref s.heap.objs.size) { s with heap := s.heap.push emptyD }) : wpAny (model Pr w) A newDict Q' E s :=
  wpAny_newObj_type k
theorem DV.empty {d : Addr} (h : (d == sysModules) = false) : DV w d emptyD [] := ⟨h, [], ⟨#[], 0, ⟨rfl, rfl, rfl⟩, rfl, fun e h => by simp at h, .nil, List.nodup_nil⟩, .nil⟩
theorem act_dict {D : Addr} {kx vx : PySem.Expr} {p1 : Value → Value → Sem Unit} {Q : Unit → Shared → Prop}
    (h : wpAny (model Pr w) A (eval kx env) (fun kv s₁ => wpAny (model Pr w) A (eval vx env) (fun vv s₂ => wpAny (model Pr w) A (dictSet D kv vv) (fun _ s₃ => Q () s₃) E s₂) E s₁) E s) :
    wpAny (model Pr w) A (do let kv ← eval kx env; let vv ← holding [kv] (eval vx env); standAt { kx.pos with endLine := vx.pos.endLine, endCol := vx.pos.endCol }; holding [kv, vv] (dictSet D kv vv)) Q E s :=
  wpAny_bind (wpAny_mono h (fun kv s₄ h₄ => wpAny_bind (wpAny_holding (wpAny_mono h₄ (fun vv s₅ h₅ => wpAny_bind (wpAny_standAt (wpAny_holding h₅))) fun _ _ z => z))) fun _ _ z => z)
end
set_option maxHeartbeats 8000000 in
theorem left_spec {C : Cx} {m : Str → Option Value} {led : List (Addr × Obj)} {s : Shared} {Q E : Value → Shared → Prop} {d : Addr} {o : Obj} {sm : List (Nat × Int)} (S : St C m led s) (hm : (d, o) ∈ led) (D : DV C.w d o sm) (hsz : sm.length ≤ 2 ^ 20)
    (k : ∀ r o' s', DV C.w r o' (sm.filter fun p => p.2 ≠ 0) → St C m ((r, o') :: led) s' → Q (.ref r) s') :
    wpAny (model Pr C.w) (AU 690 4900) (call (.ref 70) [.ref d]) Q E s := by
  refine callC [("sums", .ref d)] S (by rfl) (by kernel_rfl) (by decide) (by rfl) ?_ (by decide +kernel) (by rfl) (by rfl) (by rfl) ?_
  · intro n x hx
    simp only [List.mem_cons, List.not_mem_nil, or_false] at hx
    subst hx
    exact .inr ⟨by kernel_rfl, by kernel_rfl⟩
  intro C' s' cells hw hlt hst' S' hcl
  obtain ⟨oc, rfl, hoc⟩ := hcl.one
  refine impGen fun Q0 hQ0 => ?_
  repeat walk_at "go"
  have hoc' : oc.data = .cell (some (.ref d)) := hoc.trans (congrArg _ (by kernel_rfl))
  refine r_dcomp [("sums", C'.L + 1)] ?_
  refine r_cell (by assumption) (by rfl) (by walk_at "mem") hoc' ?_
  have D' : DV C'.w d o sm := hw.symm ▸ D
  obtain ⟨ep, K⟩ := D'.keyOk
  refine r_iter_dict (by assumption) (by walk_at "mem") D' K fun I s2 S2 => ?_
  refine comp_in S2 rfl (fun Q' s k => new_dict Q' s k) rfl (by decide +kernel) (by rfl) (by rfl) (by rfl) (by intro _ _ _; rfl) (by intro _ _ _; rfl) (fun C' m' led' s' Q' hm S' k => self_key hm S' k) ?_
  intro C2 D2 s3 hw2 hst2 hD2 S3
  dsimp only [compEnvC, relabel]
  refine comp_loop (p0 := ?_) (px := ?_) (ifs := ?_) (act := ?_) (fun i m' led' => ∃ oa, led' = (D2, oa) :: _ ∧ DV C'.w D2 oa ((sm.take i).filter fun p => p.2 ≠ 0))
    (nxt_dict K) (fin_dict K rfl) (by rintro i m' led' ⟨oa, rfl, _⟩; walk_at "mem") ⟨rfl, rfl⟩ S3.swap ⟨_, rfl, .empty hD2⟩ ?_ ?_ (by rfl) (by rfl) (by rfl) (by rfl)
  · rintro i v m₅ led₅ s₅ oI hi ⟨M, c, t, hx, hM0, hM, rfl⟩ ⟨oa, rfl, Da⟩ S₅
    refine wpAny_tests_one ?_
    repeat walk_at "go"
    refine r_cell (by assumption) (by rfl) (by walk_at "mem") hoc' ?_
    repeat walk_at "go"
    have hgc : getN sm M = some c := getN_of D'.nodup i M c hx
    refine r_ditem (by assumption) (by walk_at "mem") D' hM0 hM hgc ?_
    intro _ _ _
    repeat walk_at "go"
    have htk : (sm.take (i + 1)).filter (fun p => p.2 ≠ 0) = (sm.take i).filter (fun p => p.2 ≠ 0) ++ (if c ≠ 0 then [(M, c)] else []) := by
      rw [List.take_add_one, hx, List.filter_append]
      congr 1
      by_cases hc : c = 0 <;> simp [hc]
    by_cases hc : c = 0
    · rw [if_neg (by simp [hc])]
      refine ⟨_, _, by assumption, oa, rfl, ?_⟩
      rw [htk, if_neg (by simp [hc]), List.append_nil]; exact Da
    · rw [if_pos (by simpa using hc)]
      refine act_dict (p1 := fun _ _ => pure ()) ?_
      repeat walk_at "go"
      refine r_cell (by assumption) (by rfl) (by walk_at "mem") hoc' ?_
      repeat walk_at "go"
      refine r_ditem (by assumption) (by walk_at "mem") D' hM0 hM hgc ?_
      intro _ _ _
      have hlen : ((sm.take i).filter fun p => p.2 ≠ 0).length ≤ 2 ^ 20 := by
        have h1 := List.length_filter_le (fun p : Nat × Int => p.2 ≠ 0) (sm.take i)
        have h2 : (sm.take i).length ≤ sm.length := List.length_take_le' _ _
        omega
      refine r_dictSet (St.swap (by assumption)) Da hM0 hM hlen (fun o₆ s₆ D₆ S₆ => ?_)
      refine ⟨_, _, S₆.swap, o₆, rfl, ?_⟩
      rw [htk, if_pos hc]
      rw [putN_new] at D₆
      · exact D₆
      · intro q
        obtain ⟨p, hp, e⟩ := List.mem_map.mp q
        have hp1 := (List.mem_filter.mp hp).1
        have hn := D'.nodup
        rw [← List.take_append_drop i sm, List.map_append, List.nodup_append] at hn
        refine hn.2.2 p.1 (List.mem_map_of_mem hp1) M ?_ e
        have : (M, c) ∈ sm.drop i := by
          rw [List.mem_iff_getElem?]
          exact ⟨0, by rw [List.getElem?_drop]; exact hx⟩
        exact List.mem_map.mpr ⟨_, this, rfl⟩
  · rintro m₅ led₅ s₅ ⟨oa, rfl, Da⟩ S₅
    refine ⟨rfl, _, _, S₅, fun s₉ S₉ => ?_⟩
    rw [List.take_of_length_le (Nat.le_refl _)] at Da
    repeat walk_at "go"
    exact Ret.mk (St.keep1 (pre := [_]) S₉) fun Z => k D2 oa s₉ (hw ▸ Da) Z
end Mine

-- TyWays
namespace Mine
open PySem PySem.W PyProof.Rows PySem.Calls PySem.Spec
local macro_rules | `(tactic| walk_at "lk") => `(tactic| first
  | (with_reducible exact up_hit)
  | (with_reducible exact bm_hit)
  | ((with_reducible refine up_skip (ofNe (by decide)) ?_); walk_at "lk")
  | ((with_reducible refine bm_skip (ofNe (by decide)) ?_); walk_at "lk")
  | assumption
  | (simp only [upd, bmap, ofString_inj, String.reduceEq, reduceIte]; first | done | rfl | assumption))
local macro_rules | `(tactic| walk_at "mem") => `(tactic| first | exact List.Mem.head _ | assumption | (refine List.Mem.tail _ ?_; walk_at "mem") | (refine List.mem_append_right _ ?_; walk_at "mem"))
local macro_rules | `(tactic| walk_at "go meth") => `(tactic| first
  | ((with_reducible show wpAny _ _ (getMethod (Value.ref _) (Str.ofString "append") _) _ _ _); (refine r_meth (St.get (by assumption) (by walk_at "mem")) rfl rfl PySem.F.plainAttrs_list slot_list_append ?_))
  | ((with_reducible show wpAny _ _ (getMethod (Value.ref _) (Str.ofString "index") _) _ _ _); (refine r_meth (St.get (by assumption) (by walk_at "mem")) rfl rfl PySem.F.plainAttrs_list PySem.F.slot_list_index ?_))
  | (with_reducible refine PySem.GM.join ?_)
  | (with_reducible refine PySem.GM.split ?_)
  | (with_reducible refine PySem.GM.find ?_))
-- one step of the walk by my rules
local macro_rules | `(tactic| walk_at "go name") => `(tactic| first
  | (with_reducible refine r_glob (by assumption) (by first | apply g_tab | apply g_pf | apply g_em | apply g_gi | apply g_nms | apply g_ruler | apply g_told | apply g_beads | apply g_moves | apply g_left | apply g_ways | apply g_count | apply g_du | apply g_ud | apply g_ell) ?_)
  | (with_reducible refine r_bi (by assumption) (by first | apply n_range | apply n_len | apply n_hex | apply n_sum | apply n_set | apply n_list | apply n_sorted) (by first | apply b_range | apply b_len | apply b_hex | apply b_sum | apply b_set | apply b_list | apply b_sorted) ?_)
  | (with_reducible refine r_loc (by assumption) (by walk_at "lk") ?_))
local macro_rules | `(tactic| walk_at "go") => `(tactic| first
  | (with_reducible refine wpAny_execs_cons ?_)
  | (with_reducible refine wpAny_execs_nil ?_)
  | ((with_reducible show wpAny _ _ (exec (Stmt.Assign [PySem.Expr.Name _ _] _ _) _) _ _ _); refine wpAny_Assign_Name ?_)
  | (with_reducible refine wpAny_If ?_)
  | ((with_reducible show wpAny _ _ (exec (Stmt.Expr _ _) _) _ _ _); refine wpAny_Expr ?_)
  | (with_reducible refine wpAny_AugAssign_Name ?_)
  | (with_reducible refine wpAny_Return_some ?_)
  | (with_reducible refine wpAny_Break ?_)
  | ((with_reducible show wpAny _ _ (eval (PySem.Expr.Name _ _) _) _ _ _); walk_at "go name")
  | ((with_reducible show wpAny _ _ (loadName _ _) _ _ _); (with_reducible refine r_locn (by assumption) (by walk_at "lk") ?_))
  | ((with_reducible show wpAny _ _ (storeName _ _ _) _ _ _); (with_reducible refine r_store (by assumption) ?_); intro _ _)
  | ((with_reducible refine r_int (by assumption) ?_); intro _ _ _)
  | ((with_reducible refine r_str (by assumption) ?_); intro _ _ _)
  | (with_reducible refine PyProof.Rows.Constant_bool ?_)
  | (with_reducible refine wpAny_BinOp ?_)
  | ((with_reducible show wpAny _ _ (eval (PySem.Expr.List _ _) _) _ _ _); (with_reducible refine List_ ?_))
  | ((with_reducible show wpAny _ _ (newList _) _ _ _); (refine r_list (by assumption) ?_); intro _ _ _)
  | ((with_reducible show wpAny _ _ (eval (PySem.Expr.Call (PySem.Expr.Attribute _ _ _) _ _ _) _) _ _ _); refine MethodCall_ ?_)
  | ((with_reducible show wpAny _ _ (eval (PySem.Expr.Call (PySem.Expr.Name _ _) _ _ _) _) _ _ _); refine PyProof.Rows.Call_ ?_)
  | ((with_reducible show wpAny _ _ (callWith _ (Value.builtin _) _ _ _) _ _ _); first | (with_reducible refine PyProof.Rows.callWith_method0 ?_) | refine PyProof.Rows.callWith_method1 ?_)
  | ((with_reducible show wpAny _ _ (callWith _ (Value.type _) _ _ _) _ _ _); refine PySem.Pv.callWith_type1 ?_)
  | ((with_reducible show wpAny _ _ (spliced _) _ _ _); first | (with_reducible refine PyProof.Rows.args_nil ?_) | refine PyProof.Rows.args_cons ?_)
  | ((with_reducible refine r_add (by assumption) ?_); intro _ _ _)
  | ((with_reducible refine r_sub (by assumption) ?_); intro _ _ _)
  | ((with_reducible refine r_and (by assumption) ?_); intro _ _ _)
  | ((with_reducible refine r_ixor (by assumption) ?_); intro _ _ _)
  | ((with_reducible refine r_iadd (by assumption) ?_); intro _ _ _)
  | ((with_reducible refine r_range1 (by assumption) ?_); intro _ _ _ _ _ _)
  | ((with_reducible refine r_range2 (by assumption) ?_); intro _ _ _ _ _ _)
  | (with_reducible refine PySem.P.truthy_int ?_)
  | ((with_reducible show wpAny _ _ (isTrue (PySem.Expr.UnaryOp PySem.UnaryOp.Not _ _) _ _) _ _ _); (with_reducible refine isTrue_not ?_))
  | ((with_reducible show wpAny _ _ (isTrue (PySem.Expr.BinOp _ _ _ _) _ _) _ _ _); refine isTrue_plain ?_)
  | ((with_reducible show wpAny _ _ (isTrue (PySem.Expr.Name _ _) _ _) _ _ _); refine isTrue_plain ?_)
  | ((with_reducible show wpAny _ _ (isTrue (PySem.Expr.Call _ _ _ _) _ _) _ _ _); refine isTrue_plain ?_)
  | ((with_reducible show wpAny _ _ (exec (Stmt.For _ _ _ _ _) _) _ _ _); refine wpAny_For ?_)
  | ((with_reducible show wpAny _ _ (getMethod _ _ _) _ _ _); walk_at "go meth")
  | ((with_reducible show wpAny _ _ (isTrue (PySem.Expr.Compare _ [_] [_] _) _ _) _ _ _); refine wpAny_isTrue_Compare1 ?_)
  | ((with_reducible show wpAny _ _ (eval (PySem.Expr.Compare _ [_] [_] _) _) _ _ _); refine wpAny_Compare1 ?_)
  | (with_reducible refine PySem.P.lt_int ?_)
  | (with_reducible refine PySem.P.le_int ?_)
  | (with_reducible refine PySem.P.gt_int ?_)
  | (with_reducible refine PySem.P.ge_int ?_)
  | (with_reducible refine PySem.P.eq_int ?_)
  | (with_reducible refine PySem.P.ne_int ?_)
  | (with_reducible refine PySem.P.notIn_str ?_)
  | (with_reducible refine wpAny_truthy_bool ?_)
  | (with_reducible refine wpAny_IfExp ?_)
  | (with_reducible refine wpAny_UnaryOp ?_)
  | ((with_reducible refine r_neg (by assumption) ?_); intro _ _ _)
  | (with_reducible refine Subscript_ ?_)
  | ((with_reducible show wpAny _ _ (exec (Stmt.Assert _ _ _) _) _ _ _); refine wpAny_Assert rfl ?_)
  | ((with_reducible show wpAny _ _ (eval (PySem.Expr.Tuple _ _ _) _) _ _ _); (with_reducible refine Tuple_ ?_))
  | ((with_reducible show wpAny _ _ (newTuple _) _ _ _); (refine r_tuple (by assumption) ?_); intro _ _ _)
  | ((with_reducible show wpAny _ _ (callWith _ (Value.ref _) _ _ _) _ _ _); first | (with_reducible refine cw_r0 (by assumption) (by kernel_rfl) ?_) | refine cw_r (by assumption) (by kernel_rfl) ?_)
  | ((with_reducible show _ ∧ wpAny _ _ (call _ _) _ _ _); refine ⟨⟨_, _, by assumption⟩, ?_⟩)
  | (with_reducible refine useImp (by assumption) ?_)
  | dsimp only [List.cons_append, List.nil_append])
abbrev tup3v (x y z : Value) : Obj := { cls := .type "tuple", data := .seq #[x, y, z] }
section
variable {C : Cx} {m : Str → Option Value} {led : List (Addr × Obj)} {s : Shared} {A : Around} {E : Value → Shared → Prop} {w : World} {env : Env}
theorem for_list_t3 {a b c : Str} {pa pb pc tp : Pos} {x1} {body orelse : List Stmt} {l : Addr} {its : Array Value} {Q : Flow → Shared → Prop}
    (need : List (Addr × Obj) → Prop) (hn : ∀ m led s, need led → St C m led s → s.heap.IsList l its)
    (J : Nat → (Str → Option Value) → List (Addr × Obj) → Prop) (S : St C m led s) (hl : s.heap.IsList l its) (hh : A.handled = none) (hneed : ∀ i m led, J i m led → need led) (h0 : J 0 m led)
    (tupOf : ∀ i m led, i < its.size → J i m led → ∃ ta x y z, its[i]? = some (.ref ta) ∧ (ta, tup3v x y z) ∈ led)
    (turn : ∀ I i ta x y z o m led s, i < its.size → its[i]? = some (.ref ta) → (ta, tup3v x y z) ∈ led → J i m led →
      St C (fun q => if q = c then some z else (fun q => if q = b then some y else (fun q => if q = a then some x else m q) q) q) ((I, o) :: led) s →
      wpAny (model Pr w) A (execs body env) (fun f s' => match f with
        | .next | .cont => ∃ m' led', St C m' ((I, o) :: led') s' ∧ J (i + 1) m' led'
        | .brk => Q .next s'
        | .ret v => Q (.ret v) s') (fun _ _ => False) s)
    (done : ∀ m led s, J its.size m led → St C m led s → wpAny (model Pr w) A (execs orelse env) Q (fun _ _ => False) s)
    (hL : env.locals = C.L := by rfl) (hk : env.scope.kind = .function := by rfl) (ha : env.kindOf a = some .local := by kernel_rfl) (hb : env.kindOf b = some .local := by kernel_rfl) (hc : env.kindOf c = some .local := by kernel_rfl) :
    wpAny (model Pr w) A (pyIter (.ref l)) (fun it s₂ => codeAny (model Pr w) A (.forLoop (.Tuple [.Name a pa, .Name b pb, .Name c pc] x1 tp) it body orelse env) (fun r s' => match r with | .ok f => Q f s' | .error e => cameBackBy (model Pr w) A env E e s') s₂) E s := by
  refine r_iter_list S hl fun I s₁ S₁ => ?_
  refine for_rule (itP := isLstIt l) (n := its.size) (val := fun i v => its[i]? = some v) (need := need) J (nxt_list hn) (fin_list hn hh) hneed
    (fun v m led i s o Q' hit S' q => ?_) ⟨rfl, rfl⟩ S₁ h0 ?_ done
  · cases v with
    | ref T => exact wpAny_letOwnedTupleGo_listiter (l := l) (i := i) ⟨o, S'.get (.head _), hit.1, hit.2⟩ q
    | _ => exact wpAny_pure q
  intro i v m led s o hi hv hJ S'
  obtain ⟨ta, x, y, z, e1, e2⟩ := tupOf i m led hi hJ
  rw [hv] at e1; cases e1
  refine wpAny_assign_Tuple (items := #[x, y, z]) hh ⟨_, S'.get (.tail _ e2), rfl, 0, rfl⟩ rfl rfl fun h' hs => ?_
  have S2 : St C m ((I, o) :: led) { s with heap := h' } :=
    ⟨⟨S'.F.ns.extBut hs (Nat.ne_of_lt S'.Llt), fun b o e => hs b o (Nat.ne_of_lt (Heap.lt_size (S'.F.keep b o e))) (S'.F.keep b o e), S'.F.above⟩,
    fun p hp => ⟨hs _ _ (Nat.ne_of_lt (S'.lt hp)) (S'.N p hp).1, (S'.N p hp).2⟩, S'.nd, S'.kn, S'.gn, S'.os⟩
  show wpAny _ _ (assignInOrder [assign (.Name a pa) env, assign (.Name b pb) env, assign (.Name c pc) env] [x, y, z]) _ _ _
  refine wpAny_bind (wpAny_holding (wpAny_assign_Name (r_store S2 (fun s₃ S₃ => ?_) hL hk ha)))
  refine wpAny_bind (wpAny_holding (wpAny_assign_Name (r_store S₃ (fun s₄ S₄ => ?_) hL hk hb)))
  refine wpAny_bind (wpAny_holding (wpAny_assign_Name (r_store S₄ (fun s₅ S₅ => ?_) hL hk hc)))
  exact wpAny_pure (turn I i ta x y z o m led s₅ hi hv e2 hJ S₅)
end
theorem MvAre.snoc_inv {l : List (Addr × Obj)} {r : List (Nat × Int)} (h : MvAre l r) : ∀ i, i < l.length → ∃ ta M c t u v, l[i]? = some (ta, tup3 (M : Nat) t (T (bitsOf M)) u c v) ∧ r[i]? = some (M, c) := by
  induction h with
  | nil => intro i h; cases h
  | @snoc l r a N c t u v hm ih =>
    intro i hi
    have hl := hm.length
    by_cases e : i < l.length
    · obtain ⟨ta, M, c', t', u', v', h1, h2⟩ := ih i e
      exact ⟨ta, M, c', t', u', v', by rw [List.getElem?_append_left e]; exact h1, by rw [List.getElem?_append_left (by omega)]; exact h2⟩
    · rw [List.length_append] at hi
      have e2 : i = l.length := by have : [(a, tup3 (N : Nat) t (T (bitsOf N)) u c v)].length = 1 := rfl; omega
      subst e2
      exact ⟨a, N, c, t, u, v, by simp, by rw [hl]; simp⟩
theorem movesOf_ok {N : Nat} {step : Int} (hN2 : N < 2 ^ 21) (hst2 : ∀ p ∈ bitsOf N, (p : Int) + step < 21) : ∀ q ∈ movesOf N step, 0 < q.1 ∧ q.1 < 2 ^ 21 := by
  intro q hq
  unfold movesOf at hq
  obtain ⟨⟨p, i⟩, h1, h2⟩ := List.mem_filterMap.mp hq
  have hp : p ∈ bitsOf N := by
    obtain ⟨j, hj⟩ := List.getElem?_of_mem h1
    rw [List.getElem?_zipIdx, Option.map_eq_some_iff] at hj
    obtain ⟨b, h3, h4⟩ := hj
    cases h4
    exact List.mem_of_getElem? h3
  have h3 := hst2 p hp
  obtain ⟨h4, h5⟩ := bitsOf_mem.mp hp
  unfold mvOne at h2
  simp only at h2
  by_cases h6 : (p : Int) + step < 0
  · rw [if_pos h6] at h2; cases h2
  · rw [if_neg h6] at h2
    by_cases h7 : N.testBit ((p : Int) + step).toNat = true
    · rw [if_pos h7] at h2; cases h2
    · rw [if_neg h7] at h2
      cases h2
      refine ⟨?_, mv_lt hN2 h5 (by simpa using h7) (by omega)⟩
      have := Nat.two_pow_pos ((p : Int) + step).toNat
      show 0 < _ + _
      omega
theorem movesOf_sign {N : Nat} {step : Int} : ∀ q ∈ movesOf N step, q.2 = 1 ∨ q.2 = -1 := by
  intro q hq
  unfold movesOf at hq
  obtain ⟨⟨p, i⟩, h1, h2⟩ := List.mem_filterMap.mp hq
  unfold mvOne at h2
  simp only at h2
  by_cases h6 : (p : Int) + step < 0
  · rw [if_pos h6] at h2; cases h2
  · rw [if_neg h6] at h2
    by_cases h7 : N.testBit ((p : Int) + step).toNat = true
    · rw [if_pos h7] at h2; cases h2
    · rw [if_neg h7] at h2
      cases h2
      show 1 - _ % 2 * 2 = 1 ∨ 1 - _ % 2 * 2 = -1
      omega
theorem St.uniq {C : Cx} {m : Str → Option Value} {led : List (Addr × Obj)} {s : Shared} {a : Addr} {o o' : Obj} (S : St C m led s) (h : (a, o) ∈ led) (h' : (a, o') ∈ led) : o = o' := by
  have h1 := S.get h
  rw [S.get h'] at h1
  exact (Option.some.inj h1).symm
theorem permC {α : Type} {d i l : α} {T R : List α} : (d :: l :: (T ++ i :: R)).Perm (l :: (T ++ i :: d :: R)) := by
  have h1 : (T ++ i :: d :: R).Perm (d :: (T ++ i :: R)) := by
    have := List.perm_middle (l₁ := T ++ [i]) (l₂ := R) (a := d)
    simpa using this
  exact (List.Perm.swap l d _).trans (h1.symm.cons l)
theorem permE {α : Type} {d i l : α} {T R : List α} : ((l :: T) ++ i :: d :: R).Perm (d :: l :: (T ++ i :: R)) := permC.symm
theorem St.dropPre {C : Cx} {m : Str → Option Value} {pre led : List (Addr × Obj)} {s : Shared} (S : St C m (pre ++ led) s) : St C m led s :=
  S.sub (fun x h => List.mem_append_right _ h) (List.Sublist.nodup (List.Sublist.map _ (List.sublist_append_right pre led)) S.nd)
theorem DV.cls {w : World} {d : Addr} {o : Obj} {sm : List (Nat × Int)} (D : DV w d o sm) : o.cls = .type "dict" := let ⟨_, ⟨_, _, h, _⟩, _⟩ := D.dk; h.1
theorem DV.nod {w : World} {d : Addr} {o : Obj} {sm : List (Nat × Int)} (D : DV w d o sm) : o.dict = none := let ⟨_, ⟨_, _, h, _⟩, _⟩ := D.dk; h.2.1
def addTo (sm : List (Nat × Int)) (M : Nat) (c : Int) : List (Nat × Int) := putN sm M ((getN sm M).getD 0 + c)
def inWays (sm : List (Nat × Int)) (sg : Int) (ms : List (Nat × Int)) : List (Nat × Int) := ms.foldl (fun sm q => addTo sm q.1 (sg * q.2)) sm
def outWays (sm : List (Nat × Int)) (b : Int) (ms : List (Nat × Int)) : List (Nat × Int) := ms.foldl (fun sm q => inWays sm q.2 (movesOf q.1 b)) sm
theorem foldl_take {α β : Type} (f : α → β → α) (a : α) (l : List β) (i : Nat) (x : β) (h : l[i]? = some x) : (l.take (i + 1)).foldl f a = f ((l.take i).foldl f a) x := by
  rw [List.take_add_one, h, List.foldl_append]; rfl
theorem putN_len (sm : List (Nat × Int)) (M : Nat) (v : Int) : (putN sm M v).length ≤ sm.length + 1 := by
  unfold putN; split
  · simp
  · simp
theorem inWays_len (sg : Int) (ms : List (Nat × Int)) : ∀ sm, (inWays sm sg ms).length ≤ sm.length + ms.length := by
  induction ms with
  | nil => intro sm; exact Nat.le_refl _
  | cons q r ih =>
    intro sm
    have h1 := ih (addTo sm q.1 (sg * q.2))
    have h2 := putN_len sm q.1 ((getN sm q.1).getD 0 + sg * q.2)
    show (inWays (addTo sm q.1 (sg * q.2)) sg r).length ≤ _
    unfold addTo at h1 ⊢
    rw [List.length_cons]; omega
theorem movesOf_len (N : Nat) (b : Int) : (movesOf N b).length ≤ 21 := by
  have h1 := List.length_filterMap_le (mvOne N b) (bitsOf N).zipIdx
  rw [List.length_zipIdx] at h1
  exact Nat.le_trans h1 (bitsOf_len N)
theorem outWays_len (b : Int) (ms : List (Nat × Int)) : ∀ sm, (outWays sm b ms).length ≤ sm.length + 21 * ms.length := by
  induction ms with
  | nil => intro sm; exact Nat.le_refl _
  | cons q r ih =>
    intro sm
    have h1 := ih (inWays sm q.2 (movesOf q.1 b))
    have h2 := inWays_len q.2 (movesOf q.1 b) sm
    have h3 := movesOf_len q.1 b
    show (outWays (inWays sm q.2 (movesOf q.1 b)) b r).length ≤ _
    rw [List.length_cons]; omega
/-- where the loops over the moves stand -/
structure WJ (w : World) (d ln : Addr) (b : Int) (tB : Tok) (sm : List (Nat × Int)) (rest : List (Addr × Obj)) (m' : Str → Option Value) (led' : List (Addr × Obj)) (o : Obj) : Prop where
  h1 : m' "sums" = some (.ref d)
  h2 : m' "later" = some (.int b tB)
  h3 : m' "names" = some (.ref ln)
  D : DV w d o sm
  hl : led' = (d, o) :: rest
structure WJ2 (w : World) (d ln : Addr) (b : Int) (tB : Tok) (c : Int) (v : Tok) (sm : List (Nat × Int)) (rest : List (Addr × Obj)) (m' : Str → Option Value) (led' : List (Addr × Obj)) (o : Obj) : Prop where
  h1 : m' "sums" = some (.ref d)
  h2 : m' "later" = some (.int b tB)
  h3 : m' "names" = some (.ref ln)
  h4 : m' "sign" = some (.int c v)
  D : DV w d o sm
  hl : led' = (d, o) :: rest
set_option maxHeartbeats 8000000 in
theorem ways_spec {C : Cx} {m : Str → Option Value} {led : List (Addr × Obj)} {s : Shared} {Q E : Value → Shared → Prop} {N : Nat} {a b : Int} {tN tA tB : Tok} {ln : Addr} {nv : List Value} {ne : Nat} (S : St C m led s)
    (hN : 0 < N) (hN2 : N < 2 ^ 21) (ha : -21 ≤ a) (hb : -21 ≤ b) (ha0 : a ≠ 0) (hb0 : b ≠ 0) (ha2 : ∀ p ∈ bitsOf N, (p : Int) + a < 21) (hb2 : ∀ q ∈ movesOf N a, ∀ p ∈ bitsOf q.1, (p : Int) + b < 21)
    (hln : (ln, listOf nv.toArray ne) ∈ led) (hnv : StrsAre nv namesL)
    (k : ∀ r o' s', DV C.w r o' ((outWays [] b (movesOf N a)).filter fun p => p.2 ≠ 0) → St C m ((r, o') :: led) s' → Q (.ref r) s') :
    wpAny (model Pr C.w) (AU 670 4700) (call (.ref 77) [.int N tN, .int a tA, .int b tB, .ref ln]) Q E s := by
  refine call0 [("number", .int N tN), ("sooner", .int a tA), ("later", .int b tB), ("names", .ref ln)] S (by rfl) (by kernel_rfl) (by decide) (by rfl) (locs (by rfl)) (by decide +kernel) (by rfl) (by rfl) (by rfl) (by rfl) ?_
  intro C' s' hw hlt hst' S'
  refine impGen fun Q0 hQ0 => ?_
  repeat walk_at "go"
  refine r_dict0 (by assumption) ?_
  intro d o0 s1 D0 S1
  repeat walk_at "go"
  refine up (pf_spec (by assumption) hN hN2 ?_)
  intro _ _ _
  repeat walk_at "go"
  refine up (moves_spec (by assumption) hN hN2 ha ha2 ha0 (by walk_at "mem") hnv ?_)
  intro l1 tups1 ep1 s2 hm1 S2
  have hl1 := hm1.length
  have hok := movesOf_ok hN2 ha2
  have hmlen := movesOf_len N a
  refine for_list_t3 (l := l1) (its := (tups1.map fun p => Value.ref p.1).toArray) (fun led' => ∃ n, (l1, listOf (tups1.map fun p => Value.ref p.1).toArray n) ∈ led') (fun m led s ⟨n, hm⟩ S => isL S hm)
    (fun i m' led' => ∃ o, WJ C'.w d ln b tB (outWays [] b ((movesOf N a).take i)) ((l1, listOf (tups1.map fun p => Value.ref p.1).toArray ep1) :: (tups1 ++ led)) m' led' o)
    (S2.perm ?_) (isL S2 (by walk_at "mem")) rfl (by rintro i m' led' ⟨o, _, _, _, _, rfl⟩; exact ⟨_, .tail _ (.head _)⟩) ⟨o0, by walk_at "lk", by walk_at "lk", by walk_at "lk", D0, rfl⟩ ?_ ?_ ?_
  · exact permB
  · rintro i m' led' hi ⟨o, _, _, _, _, rfl⟩
    obtain ⟨ta, M, c, t, u, v, h1, h2⟩ := hm1.snoc_inv i (by simpa using hi)
    exact ⟨ta, _, _, _, by simp [h1], .tail _ (.tail _ (List.mem_append_left _ (List.mem_of_getElem? h1)))⟩
  · rintro I i ta x y z oI m₅ led₅ s₅ hi hit htm ⟨o, h1, h2, h3, Do, rfl⟩ S₅
    obtain ⟨ta', M, c, t, u, v, h4, h5⟩ := hm1.snoc_inv i (by simpa using hi)
    have e1 : ta' = ta := by
      have : (tups1.map fun p => Value.ref p.1).toArray[i]? = some (.ref ta') := by simp [h4]
      rw [hit] at this
      injection this with this; injection this with this; exact this.symm
    subst e1
    have e2 := S₅.uniq (.tail _ htm) (.tail _ (.tail _ (.tail _ (List.mem_append_left _ (List.mem_of_getElem? h4)))))
    injection e2 with _ _ e3 _
    injection e3 with e3 _
    have e4 : [x, y, z] = [Value.int M t, .str (T (bitsOf M)) u, .int c v] := congrArg Array.toList e3
    injection e4 with e5 e4; injection e4 with e6 e4; injection e4 with e7 _
    subst e5 e6 e7
    have hMc := List.mem_of_getElem? h5
    obtain ⟨hM0, hM2⟩ := hok _ hMc
    have hcs := movesOf_sign _ hMc
    have hlen0 := outWays_len b ((movesOf N a).take i) []
    have hlen1 : ((movesOf N a).take i).length ≤ 21 := by rw [List.length_take]; omega
    refine impGen fun Q1 hQ1 => ?_
    repeat walk_at "go"
    refine up (moves_spec (by assumption) hM0 hM2 hb (hb2 _ hMc) hb0 (by walk_at "mem") hnv ?_)
    intro l2 tups2 ep2 s6 hm2 S6
    have hl2 := hm2.length
    have hok2 := movesOf_ok hM2 (hb2 _ hMc)
    have hmlen2 := movesOf_len M b
    refine for_list_t3 (l := l2) (its := (tups2.map fun p => Value.ref p.1).toArray) (fun led' => ∃ n, (l2, listOf (tups2.map fun p => Value.ref p.1).toArray n) ∈ led') (fun m led s ⟨n, hm⟩ S => isL S hm)
      (fun j m' led' => ∃ o, WJ2 C'.w d ln b tB c v (inWays (outWays [] b ((movesOf N a).take i)) c ((movesOf M b).take j)) ((l2, listOf (tups2.map fun p => Value.ref p.1).toArray ep2) :: (tups2 ++ (I, oI) :: (l1, listOf (tups1.map fun p => Value.ref p.1).toArray ep1) :: (tups1 ++ led))) m' led' o)
      (S6.perm permC) (isL S6 (by walk_at "mem")) rfl (by rintro i m' led' ⟨o, _, _, _, _, _, rfl⟩; exact ⟨_, .tail _ (.head _)⟩) ⟨o, by walk_at "lk", by walk_at "lk", by walk_at "lk", by walk_at "lk", Do, rfl⟩ ?_ ?_ ?_
    · rintro j m' led' hj ⟨o, _, _, _, _, _, rfl⟩
      obtain ⟨ta, M, c, t, u, v, h1, h2⟩ := hm2.snoc_inv j (by simpa using hj)
      exact ⟨ta, _, _, _, by simp [h1], .tail _ (.tail _ (List.mem_append_left _ (List.mem_of_getElem? h1)))⟩
    · rintro I2 j ta2 x y z oI2 m₇ led₇ s₇ hj hjt htm2 ⟨o2, g1, g2, g3, g4, Do2, rfl⟩ S₇
      obtain ⟨ta3, M2, c2, t2, u2, v2, h6, h7⟩ := hm2.snoc_inv j (by simpa using hj)
      have e1 : ta3 = ta2 := by
        have : (tups2.map fun p => Value.ref p.1).toArray[j]? = some (.ref ta3) := by simp [h6]
        rw [hjt] at this
        injection this with this; injection this with this; exact this.symm
      subst e1
      have e2 := S₇.uniq (.tail _ htm2) (.tail _ (.tail _ (.tail _ (List.mem_append_left _ (List.mem_of_getElem? h6)))))
      injection e2 with _ _ e3 _
      injection e3 with e3 _
      have e4 : [x, y, z] = [Value.int M2 t2, .str (T (bitsOf M2)) u2, .int c2 v2] := congrArg Array.toList e3
      injection e4 with e5 e4; injection e4 with e6 e4; injection e4 with e7 _
      subst e5 e6 e7
      have hMc2 := List.mem_of_getElem? h7
      obtain ⟨hM20, hM22⟩ := hok2 _ hMc2
      have hcs2 := movesOf_sign _ hMc2
      simp only at hcs hcs2
      have hlen2 := inWays_len c ((movesOf M b).take j) (outWays [] b ((movesOf N a).take i))
      have hlen3 : ((movesOf M b).take j).length ≤ 21 := by rw [List.length_take]; omega
      refine impGen fun Q2 hQ2 => ?_
      repeat walk_at "go"
      refine wpAny_Assign_Subscript ?_
      repeat walk_at "go"
      refine r_meth (St.get (by assumption) (by walk_at "mem")) Do2.cls Do2.nod PySem.F.plainAttrs_dict PySem.F.slot_dict_get ?_
      repeat walk_at "go"
      refine r_dget (by assumption) (by walk_at "mem") Do2 hM20 hM22 ?_
      intro _ _ _
      repeat walk_at "go"
      refine r_mul (by assumption) (by omega) (by omega) ?_
      intro _ _ _
      repeat walk_at "go"
      refine r_dset (St.swap (by assumption)) Do2 hM20 hM22 (by simp at hlen0; omega) (fun o8 s8 D8 S8 => ?_)
      repeat walk_at "go"
      refine ⟨_, _, S8.swap, o8, by walk_at "lk", by walk_at "lk", by walk_at "lk", by walk_at "lk", ?_, rfl⟩
      have : inWays (outWays [] b ((movesOf N a).take i)) c ((movesOf M b).take (j + 1)) = addTo (inWays (outWays [] b ((movesOf N a).take i)) c ((movesOf M b).take j)) M2 (c * c2) := by
        unfold inWays; rw [foldl_take _ _ _ j _ h7]
      rw [this]
      exact D8
    · rintro m₇ led₇ s₇ ⟨o2, g1, g2, g3, g4, Do2, rfl⟩ S₇
      repeat walk_at "go"
      refine ⟨_, _, St.dropPre (S₇.perm permE), o2, g1, g2, g3, ?_, rfl⟩
      have : outWays [] b ((movesOf N a).take (i + 1)) = inWays (outWays [] b ((movesOf N a).take i)) c (movesOf M b) := by
        unfold outWays; rw [foldl_take _ _ _ i _ h5]
      rw [this]
      have hT : (movesOf M b).take (tups2.map fun p => Value.ref p.1).toArray.size = movesOf M b := List.take_of_length_le (by rw [List.size_toArray, List.length_map]; omega)
      rw [hT] at Do2
      exact Do2
  · rintro m₅ led₅ s₅ ⟨o, h1, h2, h3, Do, rfl⟩ S₅
    repeat walk_at "go"
    rw [List.take_of_length_le (by simp; omega)] at Do
    have hlen := outWays_len b (movesOf N a) []
    refine up (left_spec (by assumption) (by walk_at "mem") Do (by simp at hlen; omega) fun r o' s9 D9 S9 => ?_)
    repeat walk_at "go"
    exact Ret.mk (St.keep1 (pre := (d, o) :: (l1, listOf (tups1.map fun p => Value.ref p.1).toArray ep1) :: tups1) S9) fun Z => k r o' s9 (hw ▸ D9) Z
end Mine

-- TyCount
namespace Mine
open PySem PySem.W PyProof.Rows PySem.Calls PySem.Spec
local macro_rules | `(tactic| walk_at "lk") => `(tactic| first
  | (with_reducible exact up_hit)
  | (with_reducible exact bm_hit)
  | ((with_reducible refine up_skip (ofNe (by decide)) ?_); walk_at "lk")
  | ((with_reducible refine bm_skip (ofNe (by decide)) ?_); walk_at "lk")
  | assumption
  | (simp only [upd, bmap, ofString_inj, String.reduceEq, reduceIte]; first | done | rfl | assumption))
local macro_rules | `(tactic| walk_at "mem") => `(tactic| first | exact List.Mem.head _ | assumption | (refine List.Mem.tail _ ?_; walk_at "mem") | (refine List.mem_append_right _ ?_; walk_at "mem"))
local macro_rules | `(tactic| walk_at "go meth") => `(tactic| first
  | ((with_reducible show wpAny _ _ (getMethod (Value.ref _) (Str.ofString "append") _) _ _ _); (refine r_meth (St.get (by assumption) (by walk_at "mem")) rfl rfl PySem.F.plainAttrs_list slot_list_append ?_))
  | ((with_reducible show wpAny _ _ (getMethod (Value.ref _) (Str.ofString "index") _) _ _ _); (refine r_meth (St.get (by assumption) (by walk_at "mem")) rfl rfl PySem.F.plainAttrs_list PySem.F.slot_list_index ?_))
  | (with_reducible refine PySem.GM.join ?_)
  | (with_reducible refine PySem.GM.split ?_)
  | (with_reducible refine PySem.GM.find ?_))
-- one step of the walk by my rules
local macro_rules | `(tactic| walk_at "go name") => `(tactic| first
  | (with_reducible refine r_glob (by assumption) (by first | apply g_tab | apply g_pf | apply g_em | apply g_gi | apply g_nms | apply g_ruler | apply g_told | apply g_beads | apply g_moves | apply g_left | apply g_ways | apply g_count | apply g_du | apply g_ud | apply g_ell) ?_)
  | (with_reducible refine r_bi (by assumption) (by first | apply n_range | apply n_len | apply n_hex | apply n_sum | apply n_set | apply n_list | apply n_sorted) (by first | apply b_range | apply b_len | apply b_hex | apply b_sum | apply b_set | apply b_list | apply b_sorted) ?_)
  | (with_reducible refine r_loc (by assumption) (by walk_at "lk") ?_))
local macro_rules | `(tactic| walk_at "go") => `(tactic| first
  | (with_reducible refine wpAny_execs_cons ?_)
  | (with_reducible refine wpAny_execs_nil ?_)
  | ((with_reducible show wpAny _ _ (exec (Stmt.Assign [PySem.Expr.Name _ _] _ _) _) _ _ _); refine wpAny_Assign_Name ?_)
  | (with_reducible refine wpAny_If ?_)
  | ((with_reducible show wpAny _ _ (exec (Stmt.Expr _ _) _) _ _ _); refine wpAny_Expr ?_)
  | (with_reducible refine wpAny_AugAssign_Name ?_)
  | (with_reducible refine wpAny_Return_some ?_)
  | (with_reducible refine wpAny_Break ?_)
  | ((with_reducible show wpAny _ _ (eval (PySem.Expr.Name _ _) _) _ _ _); walk_at "go name")
  | ((with_reducible show wpAny _ _ (loadName _ _) _ _ _); (with_reducible refine r_locn (by assumption) (by walk_at "lk") ?_))
  | ((with_reducible show wpAny _ _ (storeName _ _ _) _ _ _); (with_reducible refine r_store (by assumption) ?_); intro _ _)
  | ((with_reducible refine r_int (by assumption) ?_); intro _ _ _)
  | ((with_reducible refine r_str (by assumption) ?_); intro _ _ _)
  | (with_reducible refine PyProof.Rows.Constant_bool ?_)
  | (with_reducible refine wpAny_BinOp ?_)
  | ((with_reducible show wpAny _ _ (eval (PySem.Expr.List _ _) _) _ _ _); (with_reducible refine List_ ?_))
  | ((with_reducible show wpAny _ _ (newList _) _ _ _); (refine r_list (by assumption) ?_); intro _ _ _)
  | ((with_reducible show wpAny _ _ (eval (PySem.Expr.Call (PySem.Expr.Attribute _ _ _) _ _ _) _) _ _ _); refine MethodCall_ ?_)
  | ((with_reducible show wpAny _ _ (eval (PySem.Expr.Call (PySem.Expr.Name _ _) _ _ _) _) _ _ _); refine PyProof.Rows.Call_ ?_)
  | ((with_reducible show wpAny _ _ (callWith _ (Value.builtin _) _ _ _) _ _ _); first | (with_reducible refine PyProof.Rows.callWith_method0 ?_) | refine PyProof.Rows.callWith_method1 ?_)
  | ((with_reducible show wpAny _ _ (callWith _ (Value.type _) _ _ _) _ _ _); refine PySem.Pv.callWith_type1 ?_)
  | ((with_reducible show wpAny _ _ (spliced _) _ _ _); first | (with_reducible refine PyProof.Rows.args_nil ?_) | refine PyProof.Rows.args_cons ?_)
  | ((with_reducible refine r_add (by assumption) ?_); intro _ _ _)
  | ((with_reducible refine r_sub (by assumption) ?_); intro _ _ _)
  | ((with_reducible refine r_and (by assumption) ?_); intro _ _ _)
  | ((with_reducible refine r_ixor (by assumption) ?_); intro _ _ _)
  | ((with_reducible refine r_iadd (by assumption) ?_); intro _ _ _)
  | ((with_reducible refine r_range1 (by assumption) ?_); intro _ _ _ _ _ _)
  | ((with_reducible refine r_range2 (by assumption) ?_); intro _ _ _ _ _ _)
  | (with_reducible refine PySem.P.truthy_int ?_)
  | ((with_reducible show wpAny _ _ (isTrue (PySem.Expr.UnaryOp PySem.UnaryOp.Not _ _) _ _) _ _ _); (with_reducible refine isTrue_not ?_))
  | ((with_reducible show wpAny _ _ (isTrue (PySem.Expr.BinOp _ _ _ _) _ _) _ _ _); refine isTrue_plain ?_)
  | ((with_reducible show wpAny _ _ (isTrue (PySem.Expr.Name _ _) _ _) _ _ _); refine isTrue_plain ?_)
  | ((with_reducible show wpAny _ _ (isTrue (PySem.Expr.Call _ _ _ _) _ _) _ _ _); refine isTrue_plain ?_)
  | ((with_reducible show wpAny _ _ (exec (Stmt.For _ _ _ _ _) _) _ _ _); refine wpAny_For ?_)
  | ((with_reducible show wpAny _ _ (getMethod _ _ _) _ _ _); walk_at "go meth")
  | ((with_reducible show wpAny _ _ (isTrue (PySem.Expr.Compare _ [_] [_] _) _ _) _ _ _); refine wpAny_isTrue_Compare1 ?_)
  | ((with_reducible show wpAny _ _ (eval (PySem.Expr.Compare _ [_] [_] _) _) _ _ _); refine wpAny_Compare1 ?_)
  | (with_reducible refine PySem.P.lt_int ?_)
  | (with_reducible refine PySem.P.le_int ?_)
  | (with_reducible refine PySem.P.gt_int ?_)
  | (with_reducible refine PySem.P.ge_int ?_)
  | (with_reducible refine PySem.P.eq_int ?_)
  | (with_reducible refine PySem.P.ne_int ?_)
  | (with_reducible refine PySem.P.notIn_str ?_)
  | (with_reducible refine wpAny_truthy_bool ?_)
  | (with_reducible refine wpAny_IfExp ?_)
  | (with_reducible refine wpAny_UnaryOp ?_)
  | ((with_reducible refine r_neg (by assumption) ?_); intro _ _ _)
  | (with_reducible refine Subscript_ ?_)
  | ((with_reducible show wpAny _ _ (exec (Stmt.Assert _ _ _) _) _ _ _); refine wpAny_Assert rfl ?_)
  | ((with_reducible show wpAny _ _ (eval (PySem.Expr.Tuple _ _ _) _) _ _ _); (with_reducible refine Tuple_ ?_))
  | ((with_reducible show wpAny _ _ (newTuple _) _ _ _); (refine r_tuple (by assumption) ?_); intro _ _ _)
  | ((with_reducible show wpAny _ _ (callWith _ (Value.ref _) _ _ _) _ _ _); first | (with_reducible refine cw_r0 (by assumption) (by kernel_rfl) ?_) | refine cw_r (by assumption) (by kernel_rfl) ?_)
  | ((with_reducible show _ ∧ wpAny _ _ (call _ _) _ _ _); refine ⟨⟨_, _, by assumption⟩, ?_⟩)
  | (with_reducible refine useImp (by assumption) ?_)
  | dsimp only [List.cons_append, List.nil_append])
def mask (ps : List Nat) : Nat := (ps.map fun p => 2 ^ p).sum
theorem mask_bit : ∀ (ps : List Nat), ps.Nodup → ∀ x, (mask ps).testBit x = decide (x ∈ ps)
  | [], _, x => by simp [mask]
  | p :: r, h, x => by
    rw [List.nodup_cons] at h
    have ih := mask_bit r h.2
    have e : mask (p :: r) = mask r + 2 ^ p := by unfold mask; rw [List.map_cons, List.sum_cons]; omega
    rw [e, add_bit p _ x (by rw [ih]; simp [h.1]), ih]
    by_cases hx : x = p <;> simp [hx]
theorem mask_lt {ps : List Nat} (h : ps.Nodup) (hb : ∀ p ∈ ps, p < 21) : mask ps < 2 ^ 21 := by
  refine Nat.lt_pow_two_of_testBit _ fun i hi => ?_
  rw [mask_bit ps h]
  exact decide_eq_false fun q => by have := hb i q; omega
theorem mask_pos {ps : List Nat} (h : ps ≠ []) : 0 < mask ps := by
  cases ps with
  | nil => exact absurd rfl h
  | cons p r => unfold mask; rw [List.map_cons, List.sum_cons]; have := Nat.two_pow_pos p; omega
theorem bits_perm {ps : List Nat} (h : ps.Nodup) (hb : ∀ p ∈ ps, p < 21) : (bitsOf (mask ps)).Perm ps := by
  rw [List.perm_ext_iff_of_nodup ?_ h]
  · intro a
    rw [bitsOf_mem, mask_bit ps h, decide_eq_true_eq]
    exact ⟨fun q => q.2, fun q => ⟨hb a q, q⟩⟩
  · exact (bitsOf_sorted _).imp fun q => Nat.ne_of_lt q
theorem sorted_is {ps : List Nat} (h : ps.Nodup) (hb : ∀ p ∈ ps, p < 21) {ns : List Int} (h1 : ns.Perm (ps.map fun (p : Nat) => (p : Int))) (h2 : ns.Pairwise (· ≤ ·)) : ns = (bitsOf (mask ps)).map fun (p : Nat) => (p : Int) := by
  refine List.Perm.eq_of_pairwise (le := (· ≤ ·)) (fun a b _ _ h3 h4 => Int.le_antisymm h3 h4) h2 ?_ (h1.trans ((bits_perm h hb).map _).symm)
  rw [List.pairwise_map]
  exact (bitsOf_sorted _).imp fun q => by omega
/-- how many stand the wrong way round -/
def wrongAt (ps : List Nat) (k : Nat) : Nat := ((List.range k).filter fun m => decide (ps.getD k 0 < ps.getD m 0)).length
def wrongs (ps : List Nat) : Nat := ((List.range ps.length).map (wrongAt ps)).sum
theorem wrong_le (ps : List Nat) (i n : Nat) (h : i ≤ n) : ((List.range i).map (wrongAt ps)).sum ≤ i * n := by
  induction i with
  | zero => simp
  | succ i ih =>
    rw [List.range_succ, List.map_append, List.sum_append]
    have h1 := ih (by omega)
    have h2 : wrongAt ps i ≤ i := by
      have := List.length_filter_le (fun m => decide (ps.getD i 0 < ps.getD m 0)) (List.range i)
      rw [List.length_range] at this; exact this
    simp only [List.map_cons, List.map_nil, List.sum_cons, List.sum_nil]
    rw [Nat.succ_mul]; omega
def cntTo (sm : List (Nat × Int)) (ps : List Nat) : List (Nat × Int) := if ps.Nodup then addTo sm (mask ps) (1 - (wrongs ps : Int) % 2 * 2) else sm
theorem dedup_len (l : List Int) : ∀ acc : List Int, acc.Nodup → ((l.foldl step_dedup acc).length = acc.length + l.length ↔ (acc ++ l).Nodup) ∧ (l.foldl step_dedup acc).length ≤ acc.length + l.length := by
  induction l with
  | nil => intro acc h; simp [h]
  | cons x r ih =>
    intro acc h
    rw [List.foldl_cons]
    by_cases hx : x ∈ acc
    · have e : step_dedup acc x = acc := by unfold step_dedup; rw [if_pos (by simpa using hx)]
      rw [e]
      obtain ⟨h1, h2⟩ := ih acc h
      rw [List.length_cons]
      refine ⟨⟨fun q => by omega, fun q => ?_⟩, by omega⟩
      exact absurd rfl ((List.nodup_append.mp q).2.2 x hx x (.head _))
    · have e : step_dedup acc x = acc ++ [x] := by unfold step_dedup; rw [if_neg (by simpa using hx)]
      have hn : (acc ++ [x]).Nodup := by
        rw [List.nodup_append]; exact ⟨h, by simp, fun a ha b hb q => by rw [List.mem_singleton] at hb; subst hb; subst q; exact hx ha⟩
      rw [e]
      obtain ⟨h1, h2⟩ := ih (acc ++ [x]) hn
      rw [List.length_append, List.length_singleton] at h1 h2
      rw [List.length_cons]
      refine ⟨⟨fun q => ?_, fun q => ?_⟩, by omega⟩
      · have := h1.mp (by omega); simpa using this
      · have := h1.mpr (by simpa using q); omega
theorem first_len (ns : List Int) : ((firstMet (fun i => ns.getD i 0) ns.length).length = ns.length ↔ ns.Nodup) ∧ (firstMet (fun i => ns.getD i 0) ns.length).length ≤ ns.length := by
  have e : (List.range ns.length).map (fun i => ns.getD i 0) = ns := by
    apply List.ext_getElem
    · simp
    · intro i h1 h2; simp [List.getElem?_eq_getElem h2]
  unfold firstMet
  rw [e]
  have := dedup_len ns [] List.nodup_nil
  simpa using this
section
variable {C : Cx} {m : Str → Option Value} {led : List (Addr × Obj)} {s : Shared} {A : Around} {E : Value → Shared → Prop} {w : World} {env : Env}
theorem St.ofA {a : Addr} {h' : Heap} {tk : Nat} {o : Obj} (S : St C m led s) (ha : s.heap.objs.size ≤ a) (hk : ∀ b o, s.heap.get? b = some o → h'.get? b = some o) (ho : h'.get? a = some o) : St C m ((a, o) :: led) { s with heap := h', toks := tk } :=
  ⟨S.F.kept hk, S.N.kept_cons S.F hk ha ho, by
    rw [List.map_cons, List.nodup_cons]
    refine ⟨fun hm => ?_, S.nd⟩
    obtain ⟨p, hp, e⟩ := List.mem_map.mp hm
    have := S.lt hp
    rw [e] at this
    exact absurd ha (Nat.not_le.mpr this), S.kn, S.gn, S.os⟩
def isLst (its : Array Value) (o : Obj) : Prop := o.cls = .type "list" ∧ ∃ n, o.data = .seq its n
theorem isLo {l : Addr} {its : Array Value} {o : Obj} (S : St C m led s) (h : (l, o) ∈ led) (hi : isLst its o) : s.heap.IsList l its := ⟨_, S.get h, hi.1, hi.2⟩
theorem r_set {l : Addr} {vs : List Value} {ns : List Int} {Q : Value → Shared → Prop} (S : St C m led s) (hl : s.heap.IsList l vs.toArray) (hI : IntsAre vs ns) (hh : A.handled = none) (hb : vs.length < 1000)
    (k : ∀ d o s', o.SetObjOf (intKind Pr w) (fun k' => (firstMet (fun i => ns.getD i 0) vs.length).any (· == k')) (firstMet (fun i => ns.getD i 0) vs.length).length → St C m ((d, o) :: led) s' → Q (.ref d) s') :
    wpAny (model Pr w) A (call (.type "set") [.ref l]) Q E s := by
  refine PySem.call_set_list hh hl (by simpa using hI) (by simp; exact Nat.lt_trans (Nat.succ_lt_succ hb) (by decide +kernel)) fun h' tk hS hk => ?_
  obtain ⟨o, ho, hso⟩ := hS.objOf
  exact k _ o _ (by simpa using hso) (S.ofA (tk := tk) (Nat.le_refl _) (fun b o e => hk b o (Heap.lt_size e) e) ho)
theorem r_len_set {d : Addr} {o : Obj} {F : Int → Bool} {n : Nat} {Q : Value → Shared → Prop} (S : St C m led s) (hm : (d, o) ∈ led) (hso : o.SetObjOf (intKind Pr w) F n) (hfit : n < 1000) (k : ∀ t s', St C m led s' → Q (.int n t) s') : wpAny (model Pr w) A (call (.builtin "len") [.ref d]) Q E s := by
  obtain ⟨hex, es, ep, t, hd, _, _, hn, hf⟩ := hso
  subst hn
  exact PySem.call_len_set (S.get hm) hex hd hf (by omega) (k _ _ ((S.toks _).toks _))
theorem r_sorted {l : Addr} {vs : List Value} {ns : List Int} {Q : Value → Shared → Prop} (S : St C m led s) (hl : s.heap.IsList l vs.toArray) (hI : IntsAre vs ns) (h64 : vs.length < 64)
    (k : ∀ d vs' ns' e s', IntsAre vs' ns' → ns'.Perm ns → ns'.Pairwise (· ≤ ·) → St C m ((d, listOf vs'.toArray e) :: led) s' → Q (.ref d) s') : wpAny (model Pr w) A (call (.builtin "sorted") [.ref l]) Q E s := by
  exact sorted_N S.F S.N hl hI h64 fun _ _ _ _ F' N' a1 a2 a3 => k _ _ _ _ _ a1 a2 a3 (S.ofN (k := s.toks) (Nat.le_succ _) F' N')
theorem self_list {C' : Cx} {m' : Str → Option Value} {led' : List (Addr × Obj)} {s' : Shared} {I l : Addr} {i : Nat} {Q' : Value → Shared → Prop} (hm : (I, lstIt l i) ∈ led') (S' : St C' m' led' s') (k : Q' (.ref I) s') : wpAny (model Pr w) A (pyIter (.ref I)) Q' E s' :=
  wpAny_pyIter_listiter ⟨_, S'.get hm, rfl, rfl⟩ k
theorem act_inner {e iter : PySem.Expr} {acc : Value} {c : Code} {Q : Fin → Shared → Prop} (hA : A.handled = none)
    (h : wpAny (model Pr w) A (eval iter env) (fun x s₁ => wpAny (model Pr w) A (pyIter x) (fun it s₂ => codeAny (model Pr w) A (.compStart e 1 it acc env) (fun r s' => r = .ok .next ∧ Q (.again c) s') s₂) (fun _ _ => False) s₁) (fun _ _ => False) s)
    (hs : ∀ x, foldedSetIterable iter env x = pure x := by intro _; rfl) :
    wpAny (model Pr w) A (do
        let x ← eval iter env
        standAt iter.pos
        let x ← if (0 : Nat) != 0 then foldedIterable iter x else foldedSetIterable iter env x
        let _ ← runOwn (.compStart e 1 (← holding [x] (if (0 : Nat) != 0 then asyncIter x else pyIter x)) acc env) env
        again c) Q (fun _ _ => False) s := by
  refine wpAny_bind (wpAny_mono h (fun x s₁ h₁ => wpAny_bind (wpAny_standAt ?_)) fun _ _ z => z)
  show wpAny _ _ (foldedSetIterable iter env x >>= _) _ _ _
  refine wpAny_bind (wpAny_of_eq (hs x) ?_)
  refine wpAny_bind (wpAny_holding (wpAny_mono h₁ (fun it s₂ h₂ => ?_) fun _ _ z => z))
  have hm : A.mark none = A := by cases A; rfl
  refine wpAny_bind (wpAny_runOwn (h := none) ?_)
  rw [hm]
  refine codeAny_mono h₂ fun r s' hr => ?_
  obtain ⟨rfl, q⟩ := hr
  exact wpAny_pure q
end
theorem intsAre_get {vs : List Value} {ns : List Int} (h : IntsAre vs ns) : ∀ (i : Nat) (n : Int), ns[i]? = some n → ∃ t, vs[i]? = some (Value.int n t) := by
  induction h with
  | nil => intro i n e; cases e
  | @cons k t vs ns _ ih =>
    intro i n e
    cases i with
    | zero => cases e; exact ⟨t, rfl⟩
    | succ i => exact ih i n e
theorem comp_startS {C : Cx} {A : Around} {env : Env} {s : Shared} {w : World} {e : PySem.Expr} {d : Nat} {I : Addr} {acc : Value} {g : Comprehension} {R : Result → Shared → Prop} (hg : (clausesOf e)[d]? = some g) (ha : (g.is_async != 0) = false) (hfr : (Code.compStart e d (.ref I) acc env).isFrame = false) (hu : A.under (Code.compStart e d (.ref I) acc env) = A)
    (hself : ∀ Q' : Value → Shared → Prop, Q' (.ref I) s → wpAny (model Pr w) A (pyIter (.ref I)) Q' (fun _ _ => False) s)
    (h0 : codeAny (model Pr w) A (.compLoop e d (.ref I) acc env) R s) : codeAny (model Pr w) A (.compStart e d (.ref I) acc env) R s := comp_start hg ha hfr hu h0 (hself _ h0)
set_option maxHeartbeats 8000000 in
theorem count_spec {C : Cx} {m : Str → Option Value} {led : List (Addr × Obj)} {s : Shared} {Q E : Value → Shared → Prop} {d : Addr} {o : Obj} {sm : List (Nat × Int)} {lp ln : Addr} {pv nv : List Value} {op : Obj} {ne : Nat} {ps : List Nat}
    (S : St C m ((d, o) :: led) s) (D : DV C.w d o sm) (hsz : sm.length ≤ 2 ^ 19) (hlp : (lp, op) ∈ led) (hop : isLst pv.toArray op) (hpv : IntsAre pv (ps.map fun (p : Nat) => (p : Int))) (hps0 : ps ≠ []) (hps : ps.length ≤ 60) (hpb : ∀ p ∈ ps, p < 21)
    (hln : (ln, listOf nv.toArray ne) ∈ led) (hnv : StrsAre nv namesL)
    (k : ∀ o' s', DV C.w d o' (cntTo sm ps) → St C m ((d, o') :: led) s' → Q .none s') :
    wpAny (model Pr C.w) (AU 680 4800) (call (.ref 82) [.ref d, .ref lp, .ref ln]) Q E s := by
  refine callC [("sums", .ref d), ("places", .ref lp), ("names", .ref ln)] S (by rfl) (by kernel_rfl) (by decide) (by rfl) ?_ (by decide +kernel) (by rfl) (by rfl) (by rfl) ?_
  · intro n x hx
    simp only [List.mem_cons, List.not_mem_nil, or_false] at hx
    rcases hx with rfl | rfl | rfl
    · exact .inl (by kernel_rfl)
    · exact .inr ⟨by kernel_rfl, by kernel_rfl⟩
    · exact .inr ⟨by kernel_rfl, by kernel_rfl⟩
  intro C' s' cells hw hlt hst' S' hcl
  have hcl2 : CellsAre (bindC (envOfC "_law_count" _ C'.L 82 _).kindOf [("sums", .ref d), ("places", .ref lp), ("names", .ref ln)] fun _ => none) [("names", C'.L + 2), ("places", C'.L + 1)] cells := hcl
  obtain ⟨oc1, oc2, rfl, hc1, hc2⟩ := hcl2.two
  have hn1 : oc1.data = .cell (some (.ref ln)) := hc1.trans (congrArg _ (by kernel_rfl))
  have hp1 : oc2.data = .cell (some (.ref lp)) := hc2.trans (congrArg _ (by kernel_rfl))
  have D' : DV C'.w d o sm := hw.symm ▸ D
  replace S' := S'.cong (m' := bmap [("sums", .ref d)]) (fun y => rfl)
  refine impGen fun Q0 hQ0 => ?_
  repeat walk_at "go"
  have hpl : pv.length = ps.length := by rw [hpv.length, List.length_map]
  have hfl := first_len (ps.map fun (p : Nat) => (p : Int))
  have hnd : (ps.map fun (p : Nat) => (p : Int)).Nodup ↔ ps.Nodup := by
    rw [List.nodup_iff_pairwise_ne, List.nodup_iff_pairwise_ne, List.pairwise_map]
    exact ⟨fun h => h.imp fun q e => q (by rw [e]), fun h => h.imp fun q e => q (by omega)⟩
  rw [List.length_map, hnd] at hfl
  refine r_cell (by assumption) (by rfl) (by walk_at "mem") hp1 ?_
  repeat walk_at "go"
  refine r_set (by assumption) (isLo (by assumption) (by walk_at "mem") hop) hpv rfl (by omega) ?_
  intro st ost s1 host S1
  repeat walk_at "go"
  refine r_len_set (by assumption) (by walk_at "mem") host (by rw [hpl]; omega) ?_
  intro _ _ _
  repeat walk_at "go"
  refine r_cell (by assumption) (by rfl) (by walk_at "mem") hp1 ?_
  repeat walk_at "go"
  refine r_len_list (its := pv.toArray) (by assumption) (isLo (by assumption) (by walk_at "mem") hop) (by simp [hpl]; omega) ?_
  intro _ _ _
  repeat walk_at "go"
  by_cases hn : ps.Nodup
  · rw [if_pos (by rw [hpl, hfl.1.mpr hn]; simp [hpl])]
    have hmlt := mask_lt hn hpb
    have hmpos := mask_pos hps0
    repeat walk_at "go"
    refine r_lcomp [("places", C'.L + 1)] ?_
    repeat walk_at "go"
    refine r_cell (by assumption) (by rfl) (by walk_at "mem") hp1 ?_
    repeat walk_at "go"
    refine r_len_list (its := pv.toArray) (by assumption) (isLo (by assumption) (by walk_at "mem") hop) (by simp [hpl]; omega) ?_
    intro _ _ _
    repeat walk_at "go"
    refine r_iter_rangeB (n := ps.length) (by assumption) (by simp [hpl]) (by decide) (by simp [hpl]; omega) fun I s2 S2 => ?_
    refine comp_in S2 rfl (fun Q' s k => new_list Q' s k) rfl (by decide +kernel) (by rfl) (by rfl) (by rfl) (by intro _ _ _; rfl) (by intro _ _ _; rfl) (fun C' m' led' s' Q' hm S' k => self_range hm S' k) ?_
    intro C2 D2 s3 hw2 hst2 hD2 S3
    dsimp only [compEnvC, relabel]
    refine comp_loopT (p0 := ?_) (px := ?_) (ifs := ?_) (actT := ?_) (fun i m' led' => ∃ vs ep', led' = (D2, listOf vs.toArray ep') :: _ ∧ vs.length = ((List.range i).map (wrongAt ps)).sum)
      nxt_range (fin_range rfl) (fun _ _ _ _ => trivial) rfl S3.swap ⟨[], 0, rfl, rfl⟩ ?_ ?_ (by rfl) (by rfl) (by rfl) (by rfl)
    · rintro i v m₅ led₅ s₅ oI hi ⟨t, rfl⟩ ⟨vs, ep', rfl, hvs⟩ S₅
      refine wpAny_tests_nil ?_
      rw [if_pos rfl]
      refine act_inner rfl ?_
      repeat walk_at "go"
      refine r_iter_rangeB (n := i) (by assumption) (by omega) (by decide) (by omega) fun I2 s6 S6 => ?_
      refine comp_startS (C := C2) (by rfl) (by rfl) (by rfl) (by rfl) (fun Q' k => self_range (List.mem_cons_self ..) S6 k) ?_
      refine comp_loop (p0 := ?_) (px := ?_) (ifs := ?_) (act := ?_) (fun j m' led' => ∃ vs2 ep2, m' "k" = some (.int (0 + (i : Int)) t) ∧ led' = (I, oI) :: (D2, listOf vs2.toArray ep2) :: _ ∧ vs2.length = ((List.range i).map (wrongAt ps)).sum + ((List.range j).filter fun m => decide (ps.getD i 0 < ps.getD m 0)).length)
        nxt_range (fin_range rfl) (fun _ _ _ _ => trivial) rfl S6 ⟨vs, ep', by walk_at "lk", rfl, by simpa using hvs⟩ ?_ ?_ (by rfl) (by rfl) (by rfl) (by rfl)
      · rintro j v m₇ led₇ s₇ oJ hj ⟨t2, rfl⟩ ⟨vs2, ep2, hk7, rfl, hv2⟩ S₇
        obtain ⟨t3, hpj⟩ := intsAre_get hpv j (ps.getD j 0 : Nat) (by rw [List.getElem?_map, List.getD_eq_getElem?_getD, List.getElem?_eq_getElem (by omega)]; rfl)
        obtain ⟨t4, hpi⟩ := intsAre_get hpv i (ps.getD i 0 : Nat) (by rw [List.getElem?_map, List.getD_eq_getElem?_getD, List.getElem?_eq_getElem (by omega)]; rfl)
        refine wpAny_tests_one ?_
        repeat walk_at "go"
        refine r_cell (by assumption) (by rfl) (by walk_at "mem") hp1 ?_
        repeat walk_at "go"
        refine r_item (x := .int (ps.getD j 0 : Nat) t3) (its := pv.toArray) (isLo (by assumption) (by walk_at "mem") hop) (by omega) (by omega) (by simpa using hpj) ?_
        repeat walk_at "go"
        refine r_cell (by assumption) (by rfl) (by walk_at "mem") hp1 ?_
        repeat walk_at "go"
        refine r_item (x := .int (ps.getD i 0 : Nat) t4) (its := pv.toArray) (isLo (by assumption) (by walk_at "mem") hop) (by omega) (by omega) (by simpa using hpi) ?_
        repeat walk_at "go"
        have hfs : ((List.range (j + 1)).filter fun m => decide (ps.getD i 0 < ps.getD m 0)).length = ((List.range j).filter fun m => decide (ps.getD i 0 < ps.getD m 0)).length + (if ps.getD i 0 < ps.getD j 0 then 1 else 0) := by
          rw [List.range_succ, List.filter_append, List.length_append]
          congr 1
          by_cases h : ps.getD i 0 < ps.getD j 0
          · rw [List.filter_cons, if_pos (decide_eq_true h), if_pos h]; rfl
          · rw [List.filter_cons, if_neg (fun q => h (of_decide_eq_true q)), if_neg h]; rfl
        have hb1 := wrong_le ps i ps.length (by omega)
        have hb2 := List.length_filter_le (fun m => decide (ps.getD i 0 < ps.getD m 0)) (List.range j)
        rw [List.length_range] at hb2
        have hb3 : i * ps.length ≤ 60 * 60 := Nat.mul_le_mul (by omega) (by omega)
        by_cases hlt2 : ps.getD i 0 < ps.getD j 0
        · rw [if_pos (by simpa using hlt2)]
          refine act_list ?_
          repeat walk_at "go"
          refine r_append2 (by assumption) (by simp [sizeLine_eq]; omega) ?_
          intro s8 S8
          refine ⟨_, _, S8, vs2 ++ [_], ep2 + 1, by walk_at "lk", congrArg (List.cons _) lst_push, ?_⟩
          rw [hfs, if_pos hlt2, List.length_append, hv2]; rfl
        · rw [if_neg (by simpa using hlt2)]
          refine ⟨_, _, by assumption, vs2, ep2, by walk_at "lk", rfl, ?_⟩
          rw [hfs, if_neg hlt2, hv2]; rfl
      · rintro m₇ led₇ s₇ ⟨vs2, ep2, hk7, rfl, hv2⟩ S₇
        refine ⟨rfl, rfl, _, _, S₇, vs2, ep2, rfl, ?_⟩
        rw [List.range_succ, List.map_append, List.sum_append, hv2]
        rfl
    · rintro m₅ led₅ s₅ ⟨vs, ep', rfl, hvs⟩ S₅
      refine ⟨rfl, _, _, S₅, fun s₉ S₉ => ?_⟩
      have hvs : vs.length = wrongs ps := hvs
      have hb1 : wrongs ps ≤ ps.length * ps.length := wrong_le ps ps.length ps.length (Nat.le_refl _)
      have hb3 : ps.length * ps.length ≤ 60 * 60 := Nat.mul_le_mul hps hps
      repeat walk_at "go"
      refine r_len_list (by assumption) (isL (by assumption) (by walk_at "mem")) (by simp [hvs]; omega) ?_
      intro _ _ _
      repeat walk_at "go"
      refine r_lcomp [("names", C'.L + 2)] ?_
      repeat walk_at "go"
      refine r_cell (by assumption) (by rfl) (by walk_at "mem") hp1 ?_
      repeat walk_at "go"
      refine r_sorted (by assumption) (isLo (by assumption) (by walk_at "mem") hop) hpv (by omega) ?_
      intro lq qv qns eq s10 hqI hqP hqS S10
      have hqs := sorted_is hn hpb hqP hqS
      subst hqs
      have hql : qv.length = (bitsOf (mask ps)).length := by rw [hqI.length, List.length_map]
      have hbl := bitsOf_len (mask ps)
      refine r_iter_list (by assumption) (isL S10 (by walk_at "mem")) fun I3 s11 S11 => ?_
      refine comp_in S11 rfl (fun Q' s k => new_list Q' s k) rfl (by decide +kernel) (by rfl) (by rfl) (by rfl) (by intro _ _ _; rfl) (by intro _ _ _; rfl) (fun C' m' led' s' Q' hm S' k => self_list hm S' k) ?_
      intro C3 D3 s12 hw3 hst3 hD3 S12
      dsimp only [compEnvC, relabel]
      refine comp_loop (p0 := ?_) (px := ?_) (ifs := ?_) (act := ?_) (itP := isLstIt lq) (n := qv.toArray.size) (val := fun i v => qv.toArray[i]? = some v) (need := fun led' => ∃ n, (lq, listOf qv.toArray n) ∈ led')
        (fun i m' led' => ∃ xs e3, led' = (D3, listOf xs.toArray e3) :: _ ∧ StrsAre xs (((bitsOf (mask ps)).take i).map nm))
        (nxt_list (fun m led s ⟨n, hm⟩ S => isL S hm)) (fin_list (fun m led s ⟨n, hm⟩ S => isL S hm) rfl) (by rintro i m' led' ⟨xs, e3, rfl, _⟩; exact ⟨_, by walk_at "mem"⟩) ⟨rfl, rfl⟩ S12.swap ⟨[], 0, rfl, .nil⟩ ?_ ?_ (by rfl) (by rfl) (by rfl) (by rfl)
      · rintro i v m₇ led₇ s₇ oJ hj hv ⟨xs, e3, rfl, hxs⟩ S₇
        have hib : i < (bitsOf (mask ps)).length := by simpa [hql] using hj
        obtain ⟨q, hq⟩ : ∃ q, (bitsOf (mask ps))[i]? = some q := ⟨_, List.getElem?_eq_getElem hib⟩
        obtain ⟨tq, htq⟩ := intsAre_get hqI i (q : Nat) (by rw [List.getElem?_map, hq]; rfl)
        have hv2 : v = .int (q : Nat) tq := by
          have : qv[i]? = some v := by simpa using hv
          rw [htq] at this; exact (Option.some.inj this).symm
        subst hv2
        have hq21 : q < 21 := bitsOf_lt q (List.mem_of_getElem? hq)
        obtain ⟨tn, htn⟩ := hnv.get q (nm q) (names_get q hq21)
        have hxl : xs.length ≤ 21 := by rw [hxs.length, List.length_map, List.length_take]; omega
        refine wpAny_tests_nil ?_
        rw [if_pos rfl]
        refine act_list ?_
        repeat walk_at "go"
        refine r_cell (by assumption) (by rfl) (by walk_at "mem") hn1 ?_
        repeat walk_at "go"
        refine r_item (x := .str (nm q) tn) (isL (by assumption) (by walk_at "mem")) (by omega) (by omega) (by simpa using htn) ?_
        refine r_append1 (by assumption) (by simp [sizeLine_eq]; omega) ?_
        intro s8 S8
        refine ⟨_, _, S8, xs ++ [_], e3 + 1, lst_push, ?_⟩
        rw [List.take_add_one, hq, List.map_append]
        exact hxs.append' (.cons _ _ .nil)
      · rintro m₇ led₇ s₇ ⟨xs, e3, rfl, hxs⟩ S₇
        refine ⟨rfl, _, _, S₇, fun s₉ S₉ => ?_⟩
        rw [List.take_of_length_le (by simp [hql])] at hxs
        repeat walk_at "go"
        refine r_join (by assumption) (isL (by assumption) (by walk_at "mem")) (by simpa using hxs) (by decide) ?_ ?_
        · have h1 := nm_sum (bitsOf (mask ps)) bitsOf_lt
          rw [List.length_map]; omega
        intro tj s13 S13
        have hT : PySem.Txt.join (Str.ofString ", ") ((bitsOf (mask ps)).map nm) = T (bitsOf (mask ps)) := rfl
        rw [hT] at *
        repeat walk_at "go"
        refine wpAny_Assign_Subscript ?_
        repeat walk_at "go"
        refine r_meth (St.get (by assumption) (by walk_at "mem")) D'.cls D'.nod PySem.F.plainAttrs_dict PySem.F.slot_dict_get ?_
        repeat walk_at "go"
        refine r_dget (by assumption) (by walk_at "mem") D' hmpos hmlt ?_
        intro _ _ _
        repeat walk_at "go"
        refine r_mod ((wrongs ps : Int) % 2) (by assumption) (by decide) (by rw [Int.fmod_eq_emod_of_nonneg _ (by decide)]; simp [hvs]) ?_
        intro _ _ _
        repeat walk_at "go"
        refine r_mul (by assumption) (by decide) (by omega) ?_
        intro _ _ _
        repeat walk_at "go"
        rename_i S14
        refine r_dset (S14.perm (List.perm_middle (l₁ := [_, _, _, _, _, _])).symm) D' hmpos hmlt (by omega) (fun o8 s8 D8 S8 => ?_)
        repeat walk_at "go"
        refine Ret.mk (St.keep1 S8) fun Z => k o8 _ ?_ Z
        unfold cntTo addTo
        rw [if_pos hn]
        have e : ∀ a b : Int, a + (1 - b) = a + 1 - b := fun a b => by omega
        rw [e]
        exact hw ▸ D8
  · rw [if_neg (by
      rw [hpl]
      have h1 : ¬ (firstMet (fun i => (ps.map fun (p : Nat) => (p : Int)).getD i 0) ps.length).length = ps.length := fun q => hn (hfl.1.mp q)
      have h2 : ((pv.toArray.size : Nat) : Int) = ps.length := by simp [hpl]
      rw [h2]
      simp only [beq_iff_eq]
      omega)]
    repeat walk_at "go"
    refine Ret.mk (St.dropPre (pre := [_, _, _]) (by assumption)) fun Z => k o _ ?_ Z
    unfold cntTo
    rw [if_neg hn]; exact D
end Mine

-- TyDown
namespace Mine
open PySem PySem.W PyProof.Rows PySem.Calls PySem.Spec
local macro_rules | `(tactic| walk_at "lk") => `(tactic| first
  | (with_reducible exact up_hit)
  | (with_reducible exact bm_hit)
  | ((with_reducible refine up_skip (ofNe (by decide)) ?_); walk_at "lk")
  | ((with_reducible refine bm_skip (ofNe (by decide)) ?_); walk_at "lk")
  | assumption
  | (simp only [upd, bmap, ofString_inj, String.reduceEq, reduceIte]; first | done | rfl | assumption))
local macro_rules | `(tactic| walk_at "mem") => `(tactic| first | exact List.Mem.head _ | assumption | (refine List.Mem.tail _ ?_; walk_at "mem") | (refine List.mem_append_right _ ?_; walk_at "mem"))
local macro_rules | `(tactic| walk_at "go meth") => `(tactic| first
  | ((with_reducible show wpAny _ _ (getMethod (Value.ref _) (Str.ofString "append") _) _ _ _); (refine r_meth (St.get (by assumption) (by walk_at "mem")) rfl rfl PySem.F.plainAttrs_list slot_list_append ?_))
  | ((with_reducible show wpAny _ _ (getMethod (Value.ref _) (Str.ofString "index") _) _ _ _); (refine r_meth (St.get (by assumption) (by walk_at "mem")) rfl rfl PySem.F.plainAttrs_list PySem.F.slot_list_index ?_))
  | (with_reducible refine PySem.GM.join ?_)
  | (with_reducible refine PySem.GM.split ?_)
  | (with_reducible refine PySem.GM.find ?_))
-- one step of the walk by my rules
local macro_rules | `(tactic| walk_at "go name") => `(tactic| first
  | (with_reducible refine r_glob (by assumption) (by first | apply g_tab | apply g_pf | apply g_em | apply g_gi | apply g_nms | apply g_ruler | apply g_told | apply g_beads | apply g_moves | apply g_left | apply g_ways | apply g_count | apply g_du | apply g_ud | apply g_ell) ?_)
  | (with_reducible refine r_bi (by assumption) (by first | apply n_range | apply n_len | apply n_hex | apply n_sum | apply n_set | apply n_list | apply n_sorted) (by first | apply b_range | apply b_len | apply b_hex | apply b_sum | apply b_set | apply b_list | apply b_sorted) ?_)
  | (with_reducible refine r_loc (by assumption) (by walk_at "lk") ?_))
local macro_rules | `(tactic| walk_at "go") => `(tactic| first
  | (with_reducible refine wpAny_execs_cons ?_)
  | (with_reducible refine wpAny_execs_nil ?_)
  | ((with_reducible show wpAny _ _ (exec (Stmt.Assign [PySem.Expr.Name _ _] _ _) _) _ _ _); refine wpAny_Assign_Name ?_)
  | (with_reducible refine wpAny_If ?_)
  | ((with_reducible show wpAny _ _ (exec (Stmt.Expr _ _) _) _ _ _); refine wpAny_Expr ?_)
  | (with_reducible refine wpAny_AugAssign_Name ?_)
  | (with_reducible refine wpAny_Return_some ?_)
  | (with_reducible refine wpAny_Break ?_)
  | ((with_reducible show wpAny _ _ (eval (PySem.Expr.Name _ _) _) _ _ _); walk_at "go name")
  | ((with_reducible show wpAny _ _ (loadName _ _) _ _ _); (with_reducible refine r_locn (by assumption) (by walk_at "lk") ?_))
  | ((with_reducible show wpAny _ _ (storeName _ _ _) _ _ _); (with_reducible refine r_store (by assumption) ?_); intro _ _)
  | ((with_reducible refine r_int (by assumption) ?_); intro _ _ _)
  | ((with_reducible refine r_str (by assumption) ?_); intro _ _ _)
  | (with_reducible refine PyProof.Rows.Constant_bool ?_)
  | (with_reducible refine wpAny_BinOp ?_)
  | ((with_reducible show wpAny _ _ (eval (PySem.Expr.List _ _) _) _ _ _); (with_reducible refine List_ ?_))
  | ((with_reducible show wpAny _ _ (newList _) _ _ _); (refine r_list (by assumption) ?_); intro _ _ _)
  | ((with_reducible show wpAny _ _ (eval (PySem.Expr.Call (PySem.Expr.Attribute _ _ _) _ _ _) _) _ _ _); refine MethodCall_ ?_)
  | ((with_reducible show wpAny _ _ (eval (PySem.Expr.Call (PySem.Expr.Name _ _) _ _ _) _) _ _ _); refine PyProof.Rows.Call_ ?_)
  | ((with_reducible show wpAny _ _ (callWith _ (Value.builtin _) _ _ _) _ _ _); first | (with_reducible refine PyProof.Rows.callWith_method0 ?_) | refine PyProof.Rows.callWith_method1 ?_)
  | ((with_reducible show wpAny _ _ (callWith _ (Value.type _) _ _ _) _ _ _); refine PySem.Pv.callWith_type1 ?_)
  | ((with_reducible show wpAny _ _ (spliced _) _ _ _); first | (with_reducible refine PyProof.Rows.args_nil ?_) | refine PyProof.Rows.args_cons ?_)
  | ((with_reducible refine r_add (by assumption) ?_); intro _ _ _)
  | ((with_reducible refine r_sub (by assumption) ?_); intro _ _ _)
  | ((with_reducible refine r_and (by assumption) ?_); intro _ _ _)
  | ((with_reducible refine r_ixor (by assumption) ?_); intro _ _ _)
  | ((with_reducible refine r_iadd (by assumption) ?_); intro _ _ _)
  | ((with_reducible refine r_range1 (by assumption) ?_); intro _ _ _ _ _ _)
  | ((with_reducible refine r_range2 (by assumption) ?_); intro _ _ _ _ _ _)
  | (with_reducible refine PySem.P.truthy_int ?_)
  | ((with_reducible show wpAny _ _ (isTrue (PySem.Expr.UnaryOp PySem.UnaryOp.Not _ _) _ _) _ _ _); (with_reducible refine isTrue_not ?_))
  | ((with_reducible show wpAny _ _ (isTrue (PySem.Expr.BinOp _ _ _ _) _ _) _ _ _); refine isTrue_plain ?_)
  | ((with_reducible show wpAny _ _ (isTrue (PySem.Expr.Name _ _) _ _) _ _ _); refine isTrue_plain ?_)
  | ((with_reducible show wpAny _ _ (isTrue (PySem.Expr.Call _ _ _ _) _ _) _ _ _); refine isTrue_plain ?_)
  | ((with_reducible show wpAny _ _ (exec (Stmt.For _ _ _ _ _) _) _ _ _); refine wpAny_For ?_)
  | ((with_reducible show wpAny _ _ (getMethod _ _ _) _ _ _); walk_at "go meth")
  | ((with_reducible show wpAny _ _ (isTrue (PySem.Expr.Compare _ [_] [_] _) _ _) _ _ _); refine wpAny_isTrue_Compare1 ?_)
  | ((with_reducible show wpAny _ _ (eval (PySem.Expr.Compare _ [_] [_] _) _) _ _ _); refine wpAny_Compare1 ?_)
  | (with_reducible refine PySem.P.lt_int ?_)
  | (with_reducible refine PySem.P.le_int ?_)
  | (with_reducible refine PySem.P.gt_int ?_)
  | (with_reducible refine PySem.P.ge_int ?_)
  | (with_reducible refine PySem.P.eq_int ?_)
  | (with_reducible refine PySem.P.ne_int ?_)
  | (with_reducible refine PySem.P.notIn_str ?_)
  | (with_reducible refine wpAny_truthy_bool ?_)
  | (with_reducible refine wpAny_IfExp ?_)
  | (with_reducible refine wpAny_UnaryOp ?_)
  | ((with_reducible refine r_neg (by assumption) ?_); intro _ _ _)
  | (with_reducible refine Subscript_ ?_)
  | ((with_reducible show wpAny _ _ (exec (Stmt.Assert _ _ _) _) _ _ _); refine wpAny_Assert rfl ?_)
  | ((with_reducible show wpAny _ _ (eval (PySem.Expr.Tuple _ _ _) _) _ _ _); (with_reducible refine Tuple_ ?_))
  | ((with_reducible show wpAny _ _ (newTuple _) _ _ _); (refine r_tuple (by assumption) ?_); intro _ _ _)
  | ((with_reducible show wpAny _ _ (callWith _ (Value.ref _) _ _ _) _ _ _); first | (with_reducible refine cw_r0 (by assumption) (by kernel_rfl) ?_) | refine cw_r (by assumption) (by kernel_rfl) ?_)
  | ((with_reducible show _ ∧ wpAny _ _ (call _ _) _ _ _); refine ⟨⟨_, _, by assumption⟩, ?_⟩)
  | (with_reducible refine useImp (by assumption) ?_)
  | dsimp only [List.cons_append, List.nil_append])
section
variable {C : Cx} {m : Str → Option Value} {led : List (Addr × Obj)} {s : Shared} {A : Around} {E : Value → Shared → Prop} {w : World} {env : Env}
theorem r_isub {a b : Int} {t u : Tok} {Q : Value → Shared → Prop} (S : St C m led s) (k : ∀ t s', St C m led s' → Q (.int (a - b) t) s') : wpAny (model Pr w) A (inplaceOp .Sub (.int a t) (.int b u)) Q E s := PyProof.Rows.isub_int (k _ _ (S.toks _))
theorem r_list_copy {l : Addr} {its : Array Value} {n : Nat} {Q : Value → Shared → Prop} (S : St C m led s) (hm : (l, listOf its n) ∈ led) (hsz : its.size ≤ sizeLine) (k : ∀ d o s', isLst its o → St C m ((d, o) :: led) s' → Q (.ref d) s') :
    wpAny (model Pr w) A (call (.type "list") [.ref l]) Q E s := by
  refine call_list_seq (hsz := hsz) l (.inl rfl) (S.get hm) rfl rfl fun h' c' hk hD => ?_
  exact k _ _ _ ⟨rfl, c', rfl⟩ (S.ofA (tk := s.toks) (Nat.le_refl _) hk hD)
theorem r_setitem {l : Addr} {its : Array Value} {o : Obj} {k : Int} {t : Tok} {v : Value} {Q : Unit → Shared → Prop} (S : St C m ((l, o) :: led) s) (ho : isLst its o) (h0 : 0 ≤ k) (hn : k < its.size) (hfit : its.size < 2 ^ 60)
    (q : ∀ o' s', isLst (its.setIfInBounds k.toNat v) o' → St C m ((l, o') :: led) s' → Q () s') : wpAny (model Pr w) A (setItem (.ref l) (.int k t) v) Q E s := by
  refine wpAny_setItem_list (isLo S (.head _) ho) h0 (by omega) hn fun h' hl hs => ?_
  obtain ⟨o', ho', hc, hd⟩ := hl
  exact q o' _ ⟨hc, hd⟩ (S.chg (tk := s.toks) hs ho')
theorem r_itemo {l : Addr} {its : Array Value} {k : Int} {t : Tok} {x : Value} {Q : Value → Shared → Prop} (hl : s.heap.IsList l its) (h0 : 0 ≤ k) (hfit : k < 2 ^ 24) (hx : its[k.toNat]? = some x) (q : Q x s) : wpAny (model Pr w) A (getItem (.ref l) (.int k t)) Q E s :=
  wpAny_getItem_list hl h0 (by omega) hx q
end
def stepAt (bs : List Nat) (dn u i j : Nat) : List Nat := (bs.set i (bs.getD i 0 - dn)).set j ((bs.set i (bs.getD i 0 - dn)).getD j 0 + u)
def duIn (bs : List Nat) (dn u i : Nat) (js : List Nat) (sm : List (Nat × Int)) : List (Nat × Int) := js.foldl (fun sm j => cntTo sm (stepAt bs dn u i j)) sm
def duOf (bs : List Nat) (dn u : Nat) (is : List Nat) : List (Nat × Int) := is.foldl (fun sm i => if dn ≤ bs.getD i 0 then duIn bs dn u i (List.range bs.length) sm else sm) []
theorem cntTo_len (sm : List (Nat × Int)) (ps : List Nat) : (cntTo sm ps).length ≤ sm.length + 1 := by
  unfold cntTo; split
  · exact putN_len _ _ _
  · omega
theorem duIn_len (bs : List Nat) (dn u i : Nat) (js : List Nat) : ∀ sm, (duIn bs dn u i js sm).length ≤ sm.length + js.length := by
  induction js with
  | nil => intro sm; exact Nat.le_refl _
  | cons j r ih =>
    intro sm
    have h1 := ih (cntTo sm (stepAt bs dn u i j))
    have h2 := cntTo_len sm (stepAt bs dn u i j)
    show (duIn bs dn u i r (cntTo sm (stepAt bs dn u i j))).length ≤ _
    rw [List.length_cons]; omega
theorem duOf_len (bs : List Nat) (dn u : Nat) (is : List Nat) : ∀ sm : List (Nat × Int), (is.foldl (fun sm i => if dn ≤ bs.getD i 0 then duIn bs dn u i (List.range bs.length) sm else sm) sm).length ≤ sm.length + is.length * bs.length := by
  induction is with
  | nil => intro sm; simp
  | cons i r ih =>
    intro sm
    rw [List.foldl_cons, List.length_cons, Nat.succ_mul]
    have h1 := ih (if dn ≤ bs.getD i 0 then duIn bs dn u i (List.range bs.length) sm else sm)
    have h2 := duIn_len bs dn u i (List.range bs.length) sm
    rw [List.length_range] at h2
    have h3 : (if dn ≤ bs.getD i 0 then duIn bs dn u i (List.range bs.length) sm else sm).length ≤ sm.length + bs.length := by split <;> omega
    omega
theorem gd {l : List Nat} {i : Nat} (h : i < l.length) : l[i]? = some (l.getD i 0) := by rw [List.getD_eq_getElem?_getD, List.getElem?_eq_getElem h]; rfl
theorem gd_mem {l : List Nat} {i : Nat} (h : i < l.length) : l.getD i 0 ∈ l := List.mem_of_getElem? (gd h)
theorem stepAt_lt {bs : List Nat} {dn u i j : Nat} (hb : ∀ p ∈ bs, p + u < 21) (hi : i < bs.length) (hj : j < bs.length) : ∀ p ∈ stepAt bs dn u i j, p < 21 := by
  have h1 : ∀ p ∈ bs.set i (bs.getD i 0 - dn), p + u < 21 := fun p hp => by
    rcases List.mem_or_eq_of_mem_set hp with h | h
    · exact hb p h
    · have := hb _ (gd_mem hi)
      omega
  intro p hp
  unfold stepAt at hp
  rcases List.mem_or_eq_of_mem_set hp with h | h
  · have := h1 p h; omega
  · have := h1 _ (gd_mem (l := bs.set i (bs.getD i 0 - dn)) (i := j) (by simpa using hj))
    omega
theorem map_set_nat (bs : List Nat) (i n : Nat) : (bs.set i n).map (fun (p : Nat) => (p : Int)) = (bs.map fun (p : Nat) => (p : Int)).set i (n : Int) := by
  rw [List.map_set]
theorem duIn_snoc (bs : List Nat) (dn u i j : Nat) (sm : List (Nat × Int)) : duIn bs dn u i (List.range (j + 1)) sm = cntTo (duIn bs dn u i (List.range j) sm) (stepAt bs dn u i j) := by
  unfold duIn; rw [List.range_succ, List.foldl_append]; rfl
theorem intsAre_set {vs : List Value} {ns : List Int} (h : IntsAre vs ns) : ∀ (i : Nat) (n : Int) (t : Tok), IntsAre (vs.set i (.int n t)) (ns.set i n) := by
  induction h with
  | nil => intro i n t; exact .nil
  | @cons k t' vs ns hh ih =>
    intro i n t
    cases i with
    | zero => exact .cons n t hh
    | succ i => exact .cons k t' (ih i n t)
/-- where the loops over the beads stand -/
structure DJ (w : World) (d lb ln : Addr) (dn u : Nat) (tD tU : Tok) (rest : List (Addr × Obj)) (sm : List (Nat × Int)) (m' : Str → Option Value) (led' : List (Addr × Obj)) (o : Obj) : Prop where
  h1 : m' "sums" = some (.ref d)
  h2 : m' "beads" = some (.ref lb)
  h3 : m' "down" = some (.int dn tD)
  h4 : m' "up" = some (.int u tU)
  h5 : m' "names" = some (.ref ln)
  hl : led' = (d, o) :: rest
  D : DV w d o sm
structure DJ2 (w : World) (d lb ln : Addr) (dn u : Nat) (tD tU : Tok) (i : Int) (ti : Tok) (rest : List (Addr × Obj)) (sm : List (Nat × Int)) (m' : Str → Option Value) (led' : List (Addr × Obj)) (o : Obj) : Prop where
  h1 : m' "sums" = some (.ref d)
  h2 : m' "beads" = some (.ref lb)
  h3 : m' "down" = some (.int dn tD)
  h4 : m' "up" = some (.int u tU)
  h5 : m' "names" = some (.ref ln)
  h6 : m' "i" = some (.int i ti)
  hl : led' = (d, o) :: rest
  D : DV w d o sm
set_option maxHeartbeats 8000000 in
theorem du_spec {C : Cx} {m : Str → Option Value} {led : List (Addr × Obj)} {s : Shared} {Q E : Value → Shared → Prop} {lb ln : Addr} {bv nv : List Value} {eb ne : Nat} {bs : List Nat} {dn u : Nat} {tD tU : Tok}
    (S : St C m led s) (hlb : (lb, listOf bv.toArray eb) ∈ led) (hbv : IntsAre bv (bs.map fun (p : Nat) => (p : Int))) (hbs0 : bs ≠ []) (hbs : bs.length ≤ 60) (hbb : ∀ p ∈ bs, p + u < 21)
    (hln : (ln, listOf nv.toArray ne) ∈ led) (hnv : StrsAre nv namesL)
    (k : ∀ d o' s', DV C.w d o' (duOf bs dn u (List.range bs.length)) → St C m ((d, o') :: led) s' → Q (.ref d) s') :
    wpAny (model Pr C.w) (AU 670 4700) (call (.ref 89) [.ref lb, .int dn tD, .int u tU, .ref ln]) Q E s := by
  refine call0 [("beads", .ref lb), ("down", .int dn tD), ("up", .int u tU), ("names", .ref ln)] S (by rfl) (by kernel_rfl) (by decide) (by rfl) (locs (by rfl)) (by decide +kernel) (by rfl) (by rfl) (by rfl) (by rfl) ?_
  intro C' s' hw hlt hst' S'
  have hbl : bv.length = bs.length := by rw [hbv.length, List.length_map]
  refine impGen fun Q0 hQ0 => ?_
  repeat walk_at "go"
  refine r_dict0 (by assumption) ?_
  intro d o0 s1 D0 S1
  repeat walk_at "go"
  refine r_len_list (by assumption) (isL (by assumption) (by walk_at "mem")) (by simp [hbl]; omega) ?_
  intro _ _ _
  repeat walk_at "go"
  refine for_rangeB (a := 0) (n := bs.length) (fun i m' led' => ∃ o, DJ C'.w d lb ln dn u tD tU led (duOf bs dn u (List.range i)) m' led' o)
    (by assumption) (by simp [hbl]) (by decide) (by simp [hbl]; omega) rfl ⟨o0, by walk_at "lk", by walk_at "lk", by walk_at "lk", by walk_at "lk", by walk_at "lk", rfl, D0⟩ ?_ ?_
  · rintro I i ti oI m₅ led₅ s₅ hi ⟨o, h1, h2, h3, h4, h5, rfl, Do⟩ S₅
    obtain ⟨t3, hbi⟩ := intsAre_get hbv i (bs.getD i 0 : Nat) (by rw [List.getElem?_map, gd (by omega)]; rfl)
    have hdi : duOf bs dn u (List.range (i + 1)) = if dn ≤ bs.getD i 0 then duIn bs dn u i (List.range bs.length) (duOf bs dn u (List.range i)) else duOf bs dn u (List.range i) := by
      unfold duOf; rw [List.range_succ, List.foldl_append]; rfl
    have hl0 : (duOf bs dn u (List.range i)).length ≤ 60 * 60 := by
      have h1 := duOf_len bs dn u (List.range i) []
      rw [List.length_range] at h1
      have h2 : i * bs.length ≤ 60 * 60 := Nat.mul_le_mul (by omega) hbs
      unfold duOf
      simp only [List.length_nil] at h1
      omega
    refine impGen fun Q1 hQ1 => ?_
    repeat walk_at "go"
    refine r_item (x := .int (bs.getD i 0 : Nat) t3) (isL (by assumption) (by walk_at "mem")) (by omega) (by omega) (by simpa using hbi) ?_
    repeat walk_at "go"
    by_cases hge : dn ≤ bs.getD i 0
    · rw [if_pos (by simpa using hge)]
      repeat walk_at "go"
      refine r_len_list (by assumption) (isL (by assumption) (by walk_at "mem")) (by simp [hbl]; omega) ?_
      intro _ _ _
      repeat walk_at "go"
      refine for_rangeB (a := 0) (n := bs.length) (fun j m' led' => ∃ o, DJ2 C'.w d lb ln dn u tD tU (0 + (i : Int)) ti ((I, oI) :: led) (duIn bs dn u i (List.range j) (duOf bs dn u (List.range i))) m' led' o)
        (St.perm (by assumption) ((List.Perm.swap _ _ _).cons _)) (by simp [hbl]) (by decide) (by simp [hbl]; omega) rfl ⟨o, by walk_at "lk", by walk_at "lk", by walk_at "lk", by walk_at "lk", by walk_at "lk", by walk_at "lk", rfl, Do⟩ ?_ ?_
      · rintro I2 j tj oJ m₇ led₇ s₇ hj ⟨o2, g1, g2, g3, g4, g5, g6, rfl, Do2⟩ S₇
        refine impGen fun Q2 hQ2 => ?_
        repeat walk_at "go"
        refine r_list_copy (by assumption) (by walk_at "mem") (by simp [sizeLine_eq, hbl]; omega) ?_
        intro lp op s8 hop S8
        repeat walk_at "go"
        have hbi' : bv[i]? = some (.int (bs.getD i 0 : Nat) t3) := hbi
        refine wpAny_AugAssign_Subscript ?_
        repeat walk_at "go"
        refine r_itemo (x := .int (bs.getD i 0 : Nat) t3) (isLo (by assumption) (by walk_at "mem") hop) (by omega) (by omega) (by simpa using hbi) ?_
        repeat walk_at "go"
        refine r_isub (by assumption) ?_
        intro tn _ _
        have e1 : ((bs.getD i 0 : Nat) : Int) - (dn : Nat) = ((bs.getD i 0 - dn : Nat) : Int) := by omega
        rw [e1]
        refine r_setitem (by assumption) hop (by omega) (by simp [hbl]; omega) (by simp [hbl]; omega) (fun op2 s9 hop2 S9 => ?_)
        have e2 : bv.toArray.setIfInBounds ((0 : Int) + (i : Int)).toNat (.int ((bs.getD i 0 - dn : Nat) : Int) tn) = (bv.set i (.int ((bs.getD i 0 - dn : Nat) : Int) tn)).toArray := by
          rw [show ((0 : Int) + (i : Int)).toNat = i from by omega]; simp
        rw [e2] at hop2
        have hI2 := intsAre_set hbv i ((bs.getD i 0 - dn : Nat) : Int) tn
        rw [← map_set_nat] at hI2
        obtain ⟨t5, hbj⟩ := intsAre_get hI2 j ((bs.set i (bs.getD i 0 - dn)).getD j 0 : Nat) (by rw [List.getElem?_map, gd (by simpa using hj)]; rfl)
        repeat walk_at "go"
        refine wpAny_AugAssign_Subscript ?_
        repeat walk_at "go"
        refine r_itemo (x := .int ((bs.set i (bs.getD i 0 - dn)).getD j 0 : Nat) t5) (isLo (by assumption) (by walk_at "mem") hop2) (by omega) (by omega) (by simpa using hbj) ?_
        repeat walk_at "go"
        rename_i tn2 _ S10
        have e3 : (((bs.set i (bs.getD i 0 - dn)).getD j 0 : Nat) : Int) + (u : Nat) = (((bs.set i (bs.getD i 0 - dn)).getD j 0 + u : Nat) : Int) := by omega
        rw [e3]
        refine r_setitem S10 hop2 (by omega) (by simp [hbl]; omega) (by simp [hbl]; omega) (fun op3 s11 hop3 S11 => ?_)
        have e4 : (bv.set i (.int ((bs.getD i 0 - dn : Nat) : Int) tn)).toArray.setIfInBounds ((0 : Int) + (j : Int)).toNat (.int (((bs.set i (bs.getD i 0 - dn)).getD j 0 + u : Nat) : Int) tn2) = ((bv.set i (.int ((bs.getD i 0 - dn : Nat) : Int) tn)).set j (.int (((bs.set i (bs.getD i 0 - dn)).getD j 0 + u : Nat) : Int) tn2)).toArray := by
          rw [show ((0 : Int) + (j : Int)).toNat = j from by omega]; simp
        rw [e4] at hop3
        have hI3 := intsAre_set hI2 j (((bs.set i (bs.getD i 0 - dn)).getD j 0 + u : Nat) : Int) tn2
        rw [← map_set_nat] at hI3
        have hl2 := duIn_len bs dn u i (List.range j) (duOf bs dn u (List.range i))
        rw [List.length_range] at hl2
        have hsl : (stepAt bs dn u i j).length = bs.length := by unfold stepAt; simp
        repeat walk_at "go"
        refine up (count_spec (ps := stepAt bs dn u i j) (St.rot2 (by assumption)) Do2 (by omega) (by walk_at "mem") hop3 hI3 (fun q => ?_) (by rw [hsl]; exact hbs) (stepAt_lt hbb hi hj) (by walk_at "mem") hnv (fun o9 s12 D9 S12 => ?_))
        · rw [q] at hsl; exact hbs0 (List.length_eq_zero_iff.mp hsl.symm)
        repeat walk_at "go"
        refine ⟨_, _, (St.unrot2 S12).tl, o9, by walk_at "lk", by walk_at "lk", by walk_at "lk", by walk_at "lk", by walk_at "lk", by walk_at "lk", rfl, ?_⟩
        rw [duIn_snoc]; exact D9
      · rintro m₇ led₇ s₇ ⟨o2, g1, g2, g3, g4, g5, g6, rfl, Do2⟩ S₇
        repeat walk_at "go"
        refine ⟨_, _, S₇.swap, o2, g1, g2, g3, g4, g5, rfl, ?_⟩
        rw [hdi, if_pos hge]; exact Do2
    · rw [if_neg (by simpa using hge)]
      repeat walk_at "go"
      refine ⟨_, _, by assumption, o, by walk_at "lk", by walk_at "lk", by walk_at "lk", by walk_at "lk", by walk_at "lk", rfl, ?_⟩
      rw [hdi, if_neg hge]; exact Do
  · rintro m₅ led₅ s₅ ⟨o, h1, h2, h3, h4, h5, rfl, Do⟩ S₅
    repeat walk_at "go"
    exact Ret.mk S₅ fun Z => k d o _ (hw ▸ Do) Z
end Mine

-- TyUp
namespace Mine
open PySem PySem.W PyProof.Rows PySem.Calls PySem.Spec
local macro_rules | `(tactic| walk_at "lk") => `(tactic| first
  | (with_reducible exact up_hit)
  | (with_reducible exact bm_hit)
  | ((with_reducible refine up_skip (ofNe (by decide)) ?_); walk_at "lk")
  | ((with_reducible refine bm_skip (ofNe (by decide)) ?_); walk_at "lk")
  | assumption
  | (simp only [upd, bmap, ofString_inj, String.reduceEq, reduceIte]; first | done | rfl | assumption))
local macro_rules | `(tactic| walk_at "mem") => `(tactic| first | exact List.Mem.head _ | assumption | (refine List.Mem.tail _ ?_; walk_at "mem") | (refine List.mem_append_right _ ?_; walk_at "mem"))
local macro_rules | `(tactic| walk_at "go meth") => `(tactic| first
  | ((with_reducible show wpAny _ _ (getMethod (Value.ref _) (Str.ofString "append") _) _ _ _); (refine r_meth (St.get (by assumption) (by walk_at "mem")) rfl rfl PySem.F.plainAttrs_list slot_list_append ?_))
  | ((with_reducible show wpAny _ _ (getMethod (Value.ref _) (Str.ofString "index") _) _ _ _); (refine r_meth (St.get (by assumption) (by walk_at "mem")) rfl rfl PySem.F.plainAttrs_list PySem.F.slot_list_index ?_))
  | (with_reducible refine PySem.GM.join ?_)
  | (with_reducible refine PySem.GM.split ?_)
  | (with_reducible refine PySem.GM.find ?_))
-- one step of the walk by my rules
local macro_rules | `(tactic| walk_at "go name") => `(tactic| first
  | (with_reducible refine r_glob (by assumption) (by first | apply g_tab | apply g_pf | apply g_em | apply g_gi | apply g_nms | apply g_ruler | apply g_told | apply g_beads | apply g_moves | apply g_left | apply g_ways | apply g_count | apply g_du | apply g_ud | apply g_ell) ?_)
  | (with_reducible refine r_bi (by assumption) (by first | apply n_range | apply n_len | apply n_hex | apply n_sum | apply n_set | apply n_list | apply n_sorted) (by first | apply b_range | apply b_len | apply b_hex | apply b_sum | apply b_set | apply b_list | apply b_sorted) ?_)
  | (with_reducible refine r_loc (by assumption) (by walk_at "lk") ?_))
local macro_rules | `(tactic| walk_at "go") => `(tactic| first
  | (with_reducible refine wpAny_execs_cons ?_)
  | (with_reducible refine wpAny_execs_nil ?_)
  | ((with_reducible show wpAny _ _ (exec (Stmt.Assign [PySem.Expr.Name _ _] _ _) _) _ _ _); refine wpAny_Assign_Name ?_)
  | (with_reducible refine wpAny_If ?_)
  | ((with_reducible show wpAny _ _ (exec (Stmt.Expr _ _) _) _ _ _); refine wpAny_Expr ?_)
  | (with_reducible refine wpAny_AugAssign_Name ?_)
  | (with_reducible refine wpAny_Return_some ?_)
  | (with_reducible refine wpAny_Break ?_)
  | ((with_reducible show wpAny _ _ (eval (PySem.Expr.Name _ _) _) _ _ _); walk_at "go name")
  | ((with_reducible show wpAny _ _ (loadName _ _) _ _ _); (with_reducible refine r_locn (by assumption) (by walk_at "lk") ?_))
  | ((with_reducible show wpAny _ _ (storeName _ _ _) _ _ _); (with_reducible refine r_store (by assumption) ?_); intro _ _)
  | ((with_reducible refine r_int (by assumption) ?_); intro _ _ _)
  | ((with_reducible refine r_str (by assumption) ?_); intro _ _ _)
  | (with_reducible refine PyProof.Rows.Constant_bool ?_)
  | (with_reducible refine wpAny_BinOp ?_)
  | ((with_reducible show wpAny _ _ (eval (PySem.Expr.List _ _) _) _ _ _); (with_reducible refine List_ ?_))
  | ((with_reducible show wpAny _ _ (newList _) _ _ _); (refine r_list (by assumption) ?_); intro _ _ _)
  | ((with_reducible show wpAny _ _ (eval (PySem.Expr.Call (PySem.Expr.Attribute _ _ _) _ _ _) _) _ _ _); refine MethodCall_ ?_)
  | ((with_reducible show wpAny _ _ (eval (PySem.Expr.Call (PySem.Expr.Name _ _) _ _ _) _) _ _ _); refine PyProof.Rows.Call_ ?_)
  | ((with_reducible show wpAny _ _ (callWith _ (Value.builtin _) _ _ _) _ _ _); first | (with_reducible refine PyProof.Rows.callWith_method0 ?_) | refine PyProof.Rows.callWith_method1 ?_)
  | ((with_reducible show wpAny _ _ (callWith _ (Value.type _) _ _ _) _ _ _); refine PySem.Pv.callWith_type1 ?_)
  | ((with_reducible show wpAny _ _ (spliced _) _ _ _); first | (with_reducible refine PyProof.Rows.args_nil ?_) | refine PyProof.Rows.args_cons ?_)
  | ((with_reducible refine r_add (by assumption) ?_); intro _ _ _)
  | ((with_reducible refine r_sub (by assumption) ?_); intro _ _ _)
  | ((with_reducible refine r_and (by assumption) ?_); intro _ _ _)
  | ((with_reducible refine r_ixor (by assumption) ?_); intro _ _ _)
  | ((with_reducible refine r_iadd (by assumption) ?_); intro _ _ _)
  | ((with_reducible refine r_range1 (by assumption) ?_); intro _ _ _ _ _ _)
  | ((with_reducible refine r_range2 (by assumption) ?_); intro _ _ _ _ _ _)
  | (with_reducible refine PySem.P.truthy_int ?_)
  | ((with_reducible show wpAny _ _ (isTrue (PySem.Expr.UnaryOp PySem.UnaryOp.Not _ _) _ _) _ _ _); (with_reducible refine isTrue_not ?_))
  | ((with_reducible show wpAny _ _ (isTrue (PySem.Expr.BinOp _ _ _ _) _ _) _ _ _); refine isTrue_plain ?_)
  | ((with_reducible show wpAny _ _ (isTrue (PySem.Expr.Name _ _) _ _) _ _ _); refine isTrue_plain ?_)
  | ((with_reducible show wpAny _ _ (isTrue (PySem.Expr.Call _ _ _ _) _ _) _ _ _); refine isTrue_plain ?_)
  | ((with_reducible show wpAny _ _ (exec (Stmt.For _ _ _ _ _) _) _ _ _); refine wpAny_For ?_)
  | ((with_reducible show wpAny _ _ (getMethod _ _ _) _ _ _); walk_at "go meth")
  | ((with_reducible show wpAny _ _ (isTrue (PySem.Expr.Compare _ [_] [_] _) _ _) _ _ _); refine wpAny_isTrue_Compare1 ?_)
  | ((with_reducible show wpAny _ _ (eval (PySem.Expr.Compare _ [_] [_] _) _) _ _ _); refine wpAny_Compare1 ?_)
  | (with_reducible refine PySem.P.lt_int ?_)
  | (with_reducible refine PySem.P.le_int ?_)
  | (with_reducible refine PySem.P.gt_int ?_)
  | (with_reducible refine PySem.P.ge_int ?_)
  | (with_reducible refine PySem.P.eq_int ?_)
  | (with_reducible refine PySem.P.ne_int ?_)
  | (with_reducible refine PySem.P.notIn_str ?_)
  | (with_reducible refine wpAny_truthy_bool ?_)
  | (with_reducible refine wpAny_IfExp ?_)
  | (with_reducible refine wpAny_UnaryOp ?_)
  | ((with_reducible refine r_neg (by assumption) ?_); intro _ _ _)
  | (with_reducible refine Subscript_ ?_)
  | ((with_reducible show wpAny _ _ (exec (Stmt.Assert _ _ _) _) _ _ _); refine wpAny_Assert rfl ?_)
  | ((with_reducible show wpAny _ _ (eval (PySem.Expr.Tuple _ _ _) _) _ _ _); (with_reducible refine Tuple_ ?_))
  | ((with_reducible show wpAny _ _ (newTuple _) _ _ _); (refine r_tuple (by assumption) ?_); intro _ _ _)
  | ((with_reducible show wpAny _ _ (callWith _ (Value.ref _) _ _ _) _ _ _); first | (with_reducible refine cw_r0 (by assumption) (by kernel_rfl) ?_) | refine cw_r (by assumption) (by kernel_rfl) ?_)
  | ((with_reducible show _ ∧ wpAny _ _ (call _ _) _ _ _); refine ⟨⟨_, _, by assumption⟩, ?_⟩)
  | (with_reducible refine useImp (by assumption) ?_)
  | dsimp only [List.cons_append, List.nil_append])
def upAt (bs : List Nat) (dn u i : Nat) : List Nat := bs.set i (bs.getD i 0 + u - dn)
def upStep (bs : List Nat) (dn u : Nat) (sm : List (Nat × Int)) (i : Nat) : List (Nat × Int) := if dn ≤ bs.getD i 0 + u ∧ bs.getD i 0 < dn then cntTo sm (upAt bs dn u i) else sm
def udOf (bs : List Nat) (dn u : Nat) (is : List Nat) : List (Nat × Int) := is.foldl (upStep bs dn u) (duOf bs dn u (List.range bs.length))
theorem udOf_snoc (bs : List Nat) (dn u i : Nat) : udOf bs dn u (List.range (i + 1)) = upStep bs dn u (udOf bs dn u (List.range i)) i := by
  unfold udOf; rw [List.range_succ, List.foldl_append]; rfl
theorem upStep_len (bs : List Nat) (dn u : Nat) (sm : List (Nat × Int)) (i : Nat) : (upStep bs dn u sm i).length ≤ sm.length + 1 := by
  unfold upStep; split
  · exact cntTo_len _ _
  · omega
theorem udOf_len (bs : List Nat) (dn u : Nat) (is : List Nat) : ∀ sm : List (Nat × Int), (is.foldl (upStep bs dn u) sm).length ≤ sm.length + is.length := by
  induction is with
  | nil => intro sm; exact Nat.le_refl _
  | cons i r ih =>
    intro sm
    rw [List.foldl_cons, List.length_cons]
    have h1 := ih (upStep bs dn u sm i)
    have h2 := upStep_len bs dn u sm i
    omega
theorem upAt_lt {bs : List Nat} {dn u i : Nat} (hb : ∀ p ∈ bs, p + u < 21) (hi : i < bs.length) : ∀ p ∈ upAt bs dn u i, p < 21 := by
  intro p hp
  unfold upAt at hp
  rcases List.mem_or_eq_of_mem_set hp with h | h
  · have := hb p h; omega
  · have := hb _ (gd_mem hi); omega
set_option maxHeartbeats 8000000 in
theorem ud_spec {C : Cx} {m : Str → Option Value} {led : List (Addr × Obj)} {s : Shared} {Q E : Value → Shared → Prop} {lb ln : Addr} {bv nv : List Value} {eb ne : Nat} {bs : List Nat} {dn u : Nat} {tD tU : Tok}
    (S : St C m led s) (hlb : (lb, listOf bv.toArray eb) ∈ led) (hbv : IntsAre bv (bs.map fun (p : Nat) => (p : Int))) (hbs0 : bs ≠ []) (hbs : bs.length ≤ 60) (hbb : ∀ p ∈ bs, p + u < 21)
    (hln : (ln, listOf nv.toArray ne) ∈ led) (hnv : StrsAre nv namesL)
    (k : ∀ d o' s', DV C.w d o' (udOf bs dn u (List.range bs.length)) → St C m ((d, o') :: led) s' → Q (.ref d) s') :
    wpAny (model Pr C.w) (AU 660 4600) (call (.ref 96) [.ref lb, .int dn tD, .int u tU, .ref ln]) Q E s := by
  refine call0 [("beads", .ref lb), ("down", .int dn tD), ("up", .int u tU), ("names", .ref ln)] S (by rfl) (by kernel_rfl) (by decide) (by rfl) (locs (by rfl)) (by decide +kernel) (by rfl) (by rfl) (by rfl) (by rfl) ?_
  intro C' s' hw hlt hst' S'
  have hbl : bv.length = bs.length := by rw [hbv.length, List.length_map]
  refine impGen fun Q0 hQ0 => ?_
  repeat walk_at "go"
  refine up (du_spec S' hlb hbv hbs0 hbs hbb hln hnv fun d o0 s1 D0 S1 => ?_)
  repeat walk_at "go"
  refine r_len_list (by assumption) (isL (by assumption) (by walk_at "mem")) (by simp [hbl]; omega) ?_
  intro _ _ _
  repeat walk_at "go"
  refine for_rangeB (a := 0) (n := bs.length) (fun i m' led' => ∃ o, DJ C'.w d lb ln dn u tD tU led (udOf bs dn u (List.range i)) m' led' o)
    (by assumption) (by simp [hbl]) (by decide) (by simp [hbl]; omega) rfl ⟨o0, by walk_at "lk", by walk_at "lk", by walk_at "lk", by walk_at "lk", by walk_at "lk", rfl, D0⟩ ?_ ?_
  · rintro I i ti oI m₅ led₅ s₅ hi ⟨o, h1, h2, h3, h4, h5, rfl, Do⟩ S₅
    obtain ⟨t3, hbi⟩ := intsAre_get hbv i (bs.getD i 0 : Nat) (by rw [List.getElem?_map, gd (by omega)]; rfl)
    have hl0 : (udOf bs dn u (List.range i)).length ≤ 60 * 60 + 60 := by
      have h1 := duOf_len bs dn u (List.range bs.length) []
      rw [List.length_range] at h1
      have h2 : bs.length * bs.length ≤ 60 * 60 := Nat.mul_le_mul hbs hbs
      have h3 := udOf_len bs dn u (List.range i) (duOf bs dn u (List.range bs.length))
      rw [List.length_range] at h3
      unfold udOf
      have h4 : (duOf bs dn u (List.range bs.length)).length ≤ 0 + bs.length * bs.length := h1
      omega
    have hskip : ∀ {A : Around}, ¬ (dn ≤ bs.getD i 0 + u ∧ bs.getD i 0 < dn) → udOf bs dn u (List.range (i + 1)) = udOf bs dn u (List.range i) := fun h => by
      rw [udOf_snoc]; unfold upStep; rw [if_neg h]
    refine impGen fun Q1 hQ1 => ?_
    repeat walk_at "go"
    refine isTrue_chain ?_
    repeat walk_at "go"
    refine test_link ?_
    repeat walk_at "go"
    refine r_item (x := .int (bs.getD i 0 : Nat) t3) (isL (by assumption) (by walk_at "mem")) (by omega) (by omega) (by simpa using hbi) ?_
    repeat walk_at "go"
    by_cases hA : dn ≤ bs.getD i 0 + u
    · rw [if_pos (by rw [decide_eq_true_eq]; omega)]
      refine test_last ?_
      repeat walk_at "go"
      by_cases hB : bs.getD i 0 < dn
      · rw [if_pos (by rw [decide_eq_true_eq]; omega)]
        repeat walk_at "go"
        refine r_list_copy (by assumption) (by walk_at "mem") (by simp [sizeLine_eq, hbl]; omega) ?_
        intro lp op s8 hop S8
        repeat walk_at "go"
        refine wpAny_AugAssign_Subscript ?_
        repeat walk_at "go"
        refine r_itemo (x := .int (bs.getD i 0 : Nat) t3) (isLo (by assumption) (by walk_at "mem") hop) (by omega) (by omega) (by simpa using hbi) ?_
        repeat walk_at "go"
        rename_i tn _ S10
        have e1 : ((bs.getD i 0 : Nat) : Int) + ((u : Nat) - (dn : Nat)) = ((bs.getD i 0 + u - dn : Nat) : Int) := by omega
        rw [e1]
        refine r_setitem S10 hop (by omega) (by simp [hbl]; omega) (by simp [hbl]; omega) (fun op2 s9 hop2 S9 => ?_)
        have e2 : bv.toArray.setIfInBounds ((0 : Int) + (i : Int)).toNat (.int ((bs.getD i 0 + u - dn : Nat) : Int) tn) = (bv.set i (.int ((bs.getD i 0 + u - dn : Nat) : Int) tn)).toArray := by
          rw [show ((0 : Int) + (i : Int)).toNat = i from by omega]; simp
        rw [e2] at hop2
        have hI2 := intsAre_set hbv i ((bs.getD i 0 + u - dn : Nat) : Int) tn
        rw [← map_set_nat] at hI2
        have hsl : (upAt bs dn u i).length = bs.length := by unfold upAt; simp
        repeat walk_at "go"
        refine up (count_spec (ps := upAt bs dn u i) (St.rot2 (by assumption)) Do (by omega) (by walk_at "mem") hop2 hI2 (fun q => ?_) (by rw [hsl]; exact hbs) (upAt_lt hbb hi) (by walk_at "mem") hnv (fun o9 s12 D9 S12 => ?_))
        · rw [q] at hsl; exact hbs0 (List.length_eq_zero_iff.mp hsl.symm)
        repeat walk_at "go"
        refine ⟨_, _, (St.unrot2 S12).tl, o9, by walk_at "lk", by walk_at "lk", by walk_at "lk", by walk_at "lk", by walk_at "lk", rfl, ?_⟩
        rw [udOf_snoc]; unfold upStep; rw [if_pos ⟨hA, hB⟩]; exact D9
      · rw [if_neg (by rw [decide_eq_true_eq]; omega)]
        repeat walk_at "go"
        refine ⟨_, _, by assumption, o, by walk_at "lk", by walk_at "lk", by walk_at "lk", by walk_at "lk", by walk_at "lk", rfl, ?_⟩
        rw [hskip (A := AU 0 0) (fun q => hB q.2)]; exact Do
    · rw [if_neg (by rw [decide_eq_true_eq]; omega)]
      rw [if_neg (by decide)]
      repeat walk_at "go"
      refine ⟨_, _, by assumption, o, by walk_at "lk", by walk_at "lk", by walk_at "lk", by walk_at "lk", by walk_at "lk", rfl, ?_⟩
      rw [hskip (A := AU 0 0) (fun q => hA q.1)]; exact Do
  · rintro m₅ led₅ s₅ ⟨o, h1, h2, h3, h4, h5, rfl, Do⟩ S₅
    repeat walk_at "go"
    exact Ret.mk S₅ fun Z => k d o _ (hw ▸ Do) Z
end Mine

-- TyBeads
namespace Mine
open PySem PySem.W PyProof.Rows PySem.Calls PySem.Spec
local macro_rules | `(tactic| walk_at "lk") => `(tactic| first
  | (with_reducible exact up_hit)
  | (with_reducible exact bm_hit)
  | ((with_reducible refine up_skip (ofNe (by decide)) ?_); walk_at "lk")
  | ((with_reducible refine bm_skip (ofNe (by decide)) ?_); walk_at "lk")
  | assumption
  | (simp only [upd, bmap, ofString_inj, String.reduceEq, reduceIte]; first | done | rfl | assumption))
local macro_rules | `(tactic| walk_at "mem") => `(tactic| first | exact List.Mem.head _ | assumption | (refine List.Mem.tail _ ?_; walk_at "mem") | (refine List.mem_append_right _ ?_; walk_at "mem"))
local macro_rules | `(tactic| walk_at "go meth") => `(tactic| first
  | ((with_reducible show wpAny _ _ (getMethod (Value.ref _) (Str.ofString "append") _) _ _ _); (refine r_meth (St.get (by assumption) (by walk_at "mem")) rfl rfl PySem.F.plainAttrs_list slot_list_append ?_))
  | ((with_reducible show wpAny _ _ (getMethod (Value.ref _) (Str.ofString "index") _) _ _ _); (refine r_meth (St.get (by assumption) (by walk_at "mem")) rfl rfl PySem.F.plainAttrs_list PySem.F.slot_list_index ?_))
  | (with_reducible refine PySem.GM.join ?_)
  | (with_reducible refine PySem.GM.split ?_)
  | (with_reducible refine PySem.GM.find ?_))
-- one step of the walk by my rules
local macro_rules | `(tactic| walk_at "go name") => `(tactic| first
  | (with_reducible refine r_glob (by assumption) (by first | apply g_tab | apply g_pf | apply g_em | apply g_gi | apply g_nms | apply g_ruler | apply g_told | apply g_beads | apply g_moves | apply g_left | apply g_ways | apply g_count | apply g_du | apply g_ud | apply g_ell) ?_)
  | (with_reducible refine r_bi (by assumption) (by first | apply n_range | apply n_len | apply n_hex | apply n_sum | apply n_set | apply n_list | apply n_sorted) (by first | apply b_range | apply b_len | apply b_hex | apply b_sum | apply b_set | apply b_list | apply b_sorted) ?_)
  | (with_reducible refine r_loc (by assumption) (by walk_at "lk") ?_))
local macro_rules | `(tactic| walk_at "go") => `(tactic| first
  | (with_reducible refine wpAny_execs_cons ?_)
  | (with_reducible refine wpAny_execs_nil ?_)
  | ((with_reducible show wpAny _ _ (exec (Stmt.Assign [PySem.Expr.Name _ _] _ _) _) _ _ _); refine wpAny_Assign_Name ?_)
  | (with_reducible refine wpAny_If ?_)
  | ((with_reducible show wpAny _ _ (exec (Stmt.Expr _ _) _) _ _ _); refine wpAny_Expr ?_)
  | (with_reducible refine wpAny_AugAssign_Name ?_)
  | (with_reducible refine wpAny_Return_some ?_)
  | (with_reducible refine wpAny_Break ?_)
  | ((with_reducible show wpAny _ _ (eval (PySem.Expr.Name _ _) _) _ _ _); walk_at "go name")
  | ((with_reducible show wpAny _ _ (loadName _ _) _ _ _); (with_reducible refine r_locn (by assumption) (by walk_at "lk") ?_))
  | ((with_reducible show wpAny _ _ (storeName _ _ _) _ _ _); (with_reducible refine r_store (by assumption) ?_); intro _ _)
  | ((with_reducible refine r_int (by assumption) ?_); intro _ _ _)
  | ((with_reducible refine r_str (by assumption) ?_); intro _ _ _)
  | (with_reducible refine PyProof.Rows.Constant_bool ?_)
  | (with_reducible refine wpAny_BinOp ?_)
  | ((with_reducible show wpAny _ _ (eval (PySem.Expr.List _ _) _) _ _ _); (with_reducible refine List_ ?_))
  | ((with_reducible show wpAny _ _ (newList _) _ _ _); (refine r_list (by assumption) ?_); intro _ _ _)
  | ((with_reducible show wpAny _ _ (eval (PySem.Expr.Call (PySem.Expr.Attribute _ _ _) _ _ _) _) _ _ _); refine MethodCall_ ?_)
  | ((with_reducible show wpAny _ _ (eval (PySem.Expr.Call (PySem.Expr.Name _ _) _ _ _) _) _ _ _); refine PyProof.Rows.Call_ ?_)
  | ((with_reducible show wpAny _ _ (callWith _ (Value.builtin _) _ _ _) _ _ _); first | (with_reducible refine PyProof.Rows.callWith_method0 ?_) | refine PyProof.Rows.callWith_method1 ?_)
  | ((with_reducible show wpAny _ _ (callWith _ (Value.type _) _ _ _) _ _ _); refine PySem.Pv.callWith_type1 ?_)
  | ((with_reducible show wpAny _ _ (spliced _) _ _ _); first | (with_reducible refine PyProof.Rows.args_nil ?_) | refine PyProof.Rows.args_cons ?_)
  | ((with_reducible refine r_add (by assumption) ?_); intro _ _ _)
  | ((with_reducible refine r_sub (by assumption) ?_); intro _ _ _)
  | ((with_reducible refine r_and (by assumption) ?_); intro _ _ _)
  | ((with_reducible refine r_ixor (by assumption) ?_); intro _ _ _)
  | ((with_reducible refine r_iadd (by assumption) ?_); intro _ _ _)
  | ((with_reducible refine r_range1 (by assumption) ?_); intro _ _ _ _ _ _)
  | ((with_reducible refine r_range2 (by assumption) ?_); intro _ _ _ _ _ _)
  | (with_reducible refine PySem.P.truthy_int ?_)
  | ((with_reducible show wpAny _ _ (isTrue (PySem.Expr.UnaryOp PySem.UnaryOp.Not _ _) _ _) _ _ _); (with_reducible refine isTrue_not ?_))
  | ((with_reducible show wpAny _ _ (isTrue (PySem.Expr.BinOp _ _ _ _) _ _) _ _ _); refine isTrue_plain ?_)
  | ((with_reducible show wpAny _ _ (isTrue (PySem.Expr.Name _ _) _ _) _ _ _); refine isTrue_plain ?_)
  | ((with_reducible show wpAny _ _ (isTrue (PySem.Expr.Call _ _ _ _) _ _) _ _ _); refine isTrue_plain ?_)
  | ((with_reducible show wpAny _ _ (exec (Stmt.For _ _ _ _ _) _) _ _ _); refine wpAny_For ?_)
  | ((with_reducible show wpAny _ _ (getMethod _ _ _) _ _ _); walk_at "go meth")
  | ((with_reducible show wpAny _ _ (isTrue (PySem.Expr.Compare _ [_] [_] _) _ _) _ _ _); refine wpAny_isTrue_Compare1 ?_)
  | ((with_reducible show wpAny _ _ (eval (PySem.Expr.Compare _ [_] [_] _) _) _ _ _); refine wpAny_Compare1 ?_)
  | (with_reducible refine PySem.P.lt_int ?_)
  | (with_reducible refine PySem.P.le_int ?_)
  | (with_reducible refine PySem.P.gt_int ?_)
  | (with_reducible refine PySem.P.ge_int ?_)
  | (with_reducible refine PySem.P.eq_int ?_)
  | (with_reducible refine PySem.P.ne_int ?_)
  | (with_reducible refine PySem.P.notIn_str ?_)
  | (with_reducible refine wpAny_truthy_bool ?_)
  | (with_reducible refine wpAny_IfExp ?_)
  | (with_reducible refine wpAny_UnaryOp ?_)
  | ((with_reducible refine r_neg (by assumption) ?_); intro _ _ _)
  | (with_reducible refine Subscript_ ?_)
  | ((with_reducible show wpAny _ _ (exec (Stmt.Assert _ _ _) _) _ _ _); refine wpAny_Assert rfl ?_)
  | ((with_reducible show wpAny _ _ (eval (PySem.Expr.Tuple _ _ _) _) _ _ _); (with_reducible refine Tuple_ ?_))
  | ((with_reducible show wpAny _ _ (newTuple _) _ _ _); (refine r_tuple (by assumption) ?_); intro _ _ _)
  | ((with_reducible show wpAny _ _ (callWith _ (Value.ref _) _ _ _) _ _ _); first | (with_reducible refine cw_r0 (by assumption) (by kernel_rfl) ?_) | refine cw_r (by assumption) (by kernel_rfl) ?_)
  | ((with_reducible show _ ∧ wpAny _ _ (call _ _) _ _ _); refine ⟨⟨_, _, by assumption⟩, ?_⟩)
  | (with_reducible refine useImp (by assumption) ?_)
  | dsimp only [List.cons_append, List.nil_append])
/-- x[a:b] at a list is the item operation, and holds nothing more -/
abbrev SubIsOp (value slice : PySem.Expr) (l d : Addr) : Prop := (subscripted slice false (.ref l) (.ref d) = operate [.ref d, .ref l] (getItem (.ref l) (.ref d))) ∧ ∀ r, letTemporaryGo value (.ref l) r = pure ()
section
variable {C : Cx} {m : Str → Option Value} {led : List (Addr × Obj)} {s : Shared} {A : Around} {E : Value → Shared → Prop} {w : World} {env : Env}
theorem St.kept {h' : Heap} {tk : Nat} (S : St C m led s) (hk : ∀ b o, s.heap.get? b = some o → h'.get? b = some o) : St C m led { s with heap := h', toks := tk } :=
  ⟨S.F.kept hk, fun p hp => ⟨hk _ _ (S.N p hp).1, (S.N p hp).2⟩, S.nd, S.kn, S.gn, S.os⟩
theorem r_sum {l : Addr} {vs : List Value} {ns : List Int} {Q : Value → Shared → Prop} (S : St C m led s) (hl : s.heap.IsList l vs.toArray) (hI : IntsAre vs ns) (hh : A.handled = none) (k : ∀ t s', St C m led s' → Q (.int ns.sum t) s') :
    wpAny (model Pr w) A (call (.builtin "sum") [.ref l]) Q E s := by
  obtain ⟨xs, e⟩ := hI.allInts.items
  have hn := hI.numsOf
  rw [show vs = vs.toArray.toList from rfl, e, nums_intItems] at hn
  rw [e] at hl
  refine sum_intListG hh hl fun h' tk t' hk => ?_
  have := k t' _ (S.kept (tk := tk) hk)
  rw [← hn] at this
  rw [preSum_eq, List.take_of_length_le (by simp)]; exact this
theorem r_in_ints {l : Addr} {vs : List Value} {ns : List Int} {i : Int} {t : Tok} {Q : Value → Shared → Prop} (hl : s.heap.IsList l vs.toArray) (hI : IntsAre vs ns) (k : Q (.bool (ns.any (· == i))) s) : wpAny (model Pr w) A (compareOp .In (.int i t) (.ref l)) Q E s :=
  in_list_ints hl hI k
/-- a slice of a list of ints: the library's rule, the new list put on the ledger -/
theorem r_slice_any {value slice : PySem.Expr} {l : Addr} {vs : List Value} {ns' : List Int} {vl vu : Value} {lo hi : Option Int} {Q : Value → Shared → Prop} (S : St C m led s) (hl : s.heap.IsList l vs.toArray) (pl : IsPart vl lo) (pu : IsPart vu hi)
    (hI : IntsAre (slicePick vs.toArray lo hi none).toList ns') (hsz : vs.length ≤ 2 ^ 20)
    (k : ∀ d vs' s', IntsAre vs' ns' → St C m ((d, listOf vs'.toArray 0) :: led) s' → Q (.ref d) s')
    (hs : SubIsOp value slice l s.heap.objs.size := by exact ⟨by with_unfolding_all rfl, by intro _; with_unfolding_all rfl⟩) :
    wpAny (model Pr w) A (subscriptTail value slice (.ref l) (.ref s.heap.objs.size)) Q E { s with heap := s.heap.push { cls := .type "slice", data := .fields #[vl, vu, .none] } } :=
  slice_list S.F S.N hl pl pu (fun _ F' N' => k _ (slicePick vs.toArray lo hi none).toList _ hI (S.ofN (k := s.toks) (Nat.le_succ _) F' N')) hs.1 hs.2 (by simp [sizeLine_eq]; omega)
end
theorem joinIfI {C : Cx} {m : Str → Option Value} {led : List (Addr × Obj)} {s : Shared} {M : Model} {A : Around} {E : Value → Shared → Prop} {c : Prop} [Decidable c] {t1 t2 : Sem Value} {Q : Value → Shared → Prop} (S : St C m led s) (ns : List Int)
    (h1 : c → wpAny M A t1 (fun v s' => ∃ l v2 e, v = .ref l ∧ IntsAre v2 ns ∧ St C m ((l, listOf v2.toArray e) :: led) s') E s)
    (h2 : ¬ c → wpAny M A t2 (fun v s' => ∃ l v2 e, v = .ref l ∧ IntsAre v2 ns ∧ St C m ((l, listOf v2.toArray e) :: led) s') E s)
    (k : ∀ l v2 e s', IntsAre v2 ns → St C m ((l, listOf v2.toArray e) :: led) s' → Q (.ref l) s') : if c then wpAny M A t1 Q E s else wpAny M A t2 Q E s := by
  split
  · rename_i hc; exact wpAny_mono (h1 hc) (fun v s' ⟨l, v2, e, q, hI, S'⟩ => q ▸ k l v2 e s' hI S') fun _ _ z => z
  · rename_i hc; exact wpAny_mono (h2 hc) (fun v s' ⟨l, v2, e, q, hI, S'⟩ => q ▸ k l v2 e s' hI S') fun _ _ z => z
def sizesOf (ns : List Int) : List Int := ns.take 3 ++ (if ns.any (· == 0) then [ns.getD 2 0] else [])
def beadsI (ns : List Int) : List Int := (List.range (sizesOf ns).length).map fun k => ((sizesOf ns).take (k + 1)).sum - 1
set_option maxHeartbeats 8000000 in
theorem beads_spec {C : Cx} {m : Str → Option Value} {led : List (Addr × Obj)} {s : Shared} {Q E : Value → Shared → Prop} {lr : Addr} {rv : List Value} {er : Nat} {ns : List Int}
    (S : St C m led s) (hlr : (lr, listOf rv.toArray er) ∈ led) (hrv : IntsAre rv ns) (h3 : 3 ≤ ns.length) (h9 : ns.length ≤ 9)
    (k : ∀ l bv eb s', IntsAre bv (beadsI ns) → St C m ((l, listOf bv.toArray eb) :: led) s' → Q (.ref l) s') :
    wpAny (model Pr C.w) (AU 690 4900) (call (.ref 58) [.ref lr]) Q E s := by
  refine callC [("ruler", .ref lr)] S (by rfl) (by kernel_rfl) (by decide) (by rfl) ?_ (by decide +kernel) (by rfl) (by rfl) (by rfl) ?_
  · intro n x hx
    simp only [List.mem_cons, List.not_mem_nil, or_false] at hx
    subst hx
    exact .inl (by kernel_rfl)
  intro C' s' cells hw hlt hst' S' hcl
  obtain ⟨oc, rfl, hoc⟩ := hcl.one
  replace S' := S'.cong (m' := bmap [("ruler", .ref lr)]) (fun y => rfl)
  have hrl : rv.length = ns.length := hrv.length
  obtain ⟨t2, hr2⟩ := intsAre_get hrv 2 (ns.getD 2 0) (by rw [List.getD_eq_getElem?_getD, List.getElem?_eq_getElem (by omega)]; rfl)
  refine impGen fun Q0 hQ0 => ?_
  repeat walk_at "go"
  refine wpAny_Slice ?_
  refine evalPart_none_step ?_
  refine evalPart_some_step ?_
  repeat walk_at "go"
  refine evalPart_none_step ?_
  refine r_slice_any (by assumption) (isL (by assumption) (by walk_at "mem")) .none (.int _ _) (slice_ints_uptoW hrv (by decide)) (by omega) ?_
  intro l1 v1 s1 hI1 S1
  repeat walk_at "go"
  refine r_in_ints (isL (by assumption) (by walk_at "mem")) hrv ?_
  repeat walk_at "go"
  refine joinIfI (by assumption) (if ns.any (· == 0) then [ns.getD 2 0] else []) (fun hc => ?_) (fun hc => ?_) (fun l2 v2 e2 s2 hI2 S2 => ?_)
  · rw [if_pos hc]
    repeat walk_at "go"
    refine r_item (x := .int (ns.getD 2 0) t2) (isL (by assumption) (by walk_at "mem")) (by decide) (by decide) (by simpa using hr2) ?_
    repeat walk_at "go"
    exact ⟨_, _, _, rfl, .cons _ _ .nil, by assumption⟩
  · rw [if_neg hc]
    repeat walk_at "go"
    exact ⟨_, _, _, rfl, .nil, by assumption⟩
  have hv1 : v1.length ≤ 3 := by rw [hI1.length, List.length_take]; exact Nat.min_le_left _ _
  have hv2 : v2.length ≤ 1 := by rw [hI2.length]; split <;> simp
  refine r_addl S2 (by walk_at "mem") (by walk_at "mem") (fun l3 s3 S3 => ?_) (by rw [sizeLine_eq]; omega)
  have hI3 : IntsAre (v1 ++ v2) (sizesOf ns) := hI1.append hI2
  have hsz : (v1 ++ v2).length = (sizesOf ns).length := hI3.length
  have hsz4 : (sizesOf ns).length ≤ 4 := by rw [← hsz, List.length_append]; omega
  refine r_scell (S3.perm (List.perm_middle (l₁ := [_, _, _])).symm) (by rfl) hoc (fun s4 oc' hoc' S4 => ?_)
  repeat walk_at "go"
  refine r_lcomp [("sizes", C'.L + 1)] ?_
  repeat walk_at "go"
  refine r_cell (by assumption) (by rfl) (by walk_at "mem") hoc' ?_
  repeat walk_at "go"
  refine r_len_list (by assumption) (isL (by assumption) (by walk_at "mem")) (by rw [List.size_toArray, hsz]; omega) ?_
  intro _ _ _
  repeat walk_at "go"
  refine r_iter_rangeB (n := (sizesOf ns).length) (by assumption) (by rw [List.size_toArray, hsz]; omega) (by decide) (by rw [List.size_toArray, hsz]; omega) fun I s5 S5 => ?_
  refine comp_in S5 rfl (fun Q' s k => new_list Q' s k) rfl (by decide +kernel) (by rfl) (by rfl) (by rfl) (by intro _ _ _; rfl) (by intro _ _ _; rfl) (fun C' m' led' s' Q' hm S' k => self_range hm S' k) ?_
  intro C2 D2 s6 hw2 hst2 hD2 S6
  dsimp only [compEnvC, relabel]
  refine comp_loop (p0 := ?_) (px := ?_) (ifs := ?_) (act := ?_) (fun i m' led' => ∃ vs ep', led' = (D2, listOf vs.toArray ep') :: _ ∧ IntsAre vs ((List.range i).map fun k => ((sizesOf ns).take (k + 1)).sum - 1))
    nxt_range (fin_range rfl) (fun _ _ _ _ => trivial) rfl S6.swap ⟨[], 0, rfl, .nil⟩ ?_ ?_ (by rfl) (by rfl) (by rfl) (by rfl)
  · rintro i v m₅ led₅ s₅ oI hi ⟨t, rfl⟩ ⟨vs, ep', rfl, hvs⟩ S₅
    have hvl : vs.length = i := by rw [hvs.length]; simp
    refine wpAny_tests_nil ?_
    rw [if_pos rfl]
    refine act_list ?_
    repeat walk_at "go"
    refine r_cell (by assumption) (by rfl) (by walk_at "mem") hoc' ?_
    refine wpAny_Slice ?_
    refine evalPart_none_step ?_
    refine evalPart_some_step ?_
    repeat walk_at "go"
    refine evalPart_none_step ?_
    refine r_slice_any (by assumption) (isL (by assumption) (by walk_at "mem")) .none (.int _ _) (slice_ints_uptoW hI3 (by omega)) (by omega) ?_
    intro l7 v7 s7 hI7 S7
    repeat walk_at "go"
    refine r_sum (by assumption) (isL (by assumption) (by walk_at "mem")) hI7 rfl ?_
    intro _ _ _
    repeat walk_at "go"
    have e1 : ((1 : Int) + (i : Int)).toNat = i + 1 := by omega
    rw [e1]
    refine r_append2 (by assumption) (by simp [sizeLine_eq]; omega) ?_
    intro s8 S8
    refine ⟨_, _, S8.tl, vs ++ [_], ep' + 1, lst_push, ?_⟩
    rw [List.range_succ, List.map_append]
    exact hvs.append (.cons _ _ .nil)
  · rintro m₅ led₅ s₅ ⟨vs, ep', rfl, hvs⟩ S₅
    refine ⟨rfl, _, _, S₅, fun s₉ S₉ => ?_⟩
    repeat walk_at "go"
    exact Ret.mk (St.keep1 (pre := [_, _, _, _]) S₉) fun Z => k D2 vs ep' s₉ hvs Z
end Mine

-- TyRuler
namespace Mine
open PySem PySem.W PyProof.Rows PySem.Calls PySem.Spec
local macro_rules | `(tactic| walk_at "lk") => `(tactic| first
  | (with_reducible exact up_hit)
  | (with_reducible exact bm_hit)
  | ((with_reducible refine up_skip (ofNe (by decide)) ?_); walk_at "lk")
  | ((with_reducible refine bm_skip (ofNe (by decide)) ?_); walk_at "lk")
  | assumption
  | (simp only [upd, bmap, ofString_inj, String.reduceEq, reduceIte]; first | done | rfl | assumption))
local macro_rules | `(tactic| walk_at "mem") => `(tactic| first | exact List.Mem.head _ | assumption | (refine List.Mem.tail _ ?_; walk_at "mem") | (refine List.mem_append_right _ ?_; walk_at "mem"))
local macro_rules | `(tactic| walk_at "go meth") => `(tactic| first
  | ((with_reducible show wpAny _ _ (getMethod (Value.ref _) (Str.ofString "append") _) _ _ _); (refine r_meth (St.get (by assumption) (by walk_at "mem")) rfl rfl PySem.F.plainAttrs_list slot_list_append ?_))
  | ((with_reducible show wpAny _ _ (getMethod (Value.ref _) (Str.ofString "index") _) _ _ _); (refine r_meth (St.get (by assumption) (by walk_at "mem")) rfl rfl PySem.F.plainAttrs_list PySem.F.slot_list_index ?_))
  | (with_reducible refine PySem.GM.join ?_)
  | (with_reducible refine PySem.GM.split ?_)
  | (with_reducible refine PySem.GM.find ?_))
-- one step of the walk by my rules
local macro_rules | `(tactic| walk_at "go name") => `(tactic| first
  | (with_reducible refine r_glob (by assumption) (by first | apply g_tab | apply g_pf | apply g_em | apply g_gi | apply g_nms | apply g_ruler | apply g_told | apply g_beads | apply g_moves | apply g_left | apply g_ways | apply g_count | apply g_du | apply g_ud | apply g_ell) ?_)
  | (with_reducible refine r_bi (by assumption) (by first | apply n_range | apply n_len | apply n_hex | apply n_sum | apply n_set | apply n_list | apply n_sorted) (by first | apply b_range | apply b_len | apply b_hex | apply b_sum | apply b_set | apply b_list | apply b_sorted) ?_)
  | (with_reducible refine r_loc (by assumption) (by walk_at "lk") ?_))
local macro_rules | `(tactic| walk_at "go") => `(tactic| first
  | (with_reducible refine wpAny_execs_cons ?_)
  | (with_reducible refine wpAny_execs_nil ?_)
  | ((with_reducible show wpAny _ _ (exec (Stmt.Assign [PySem.Expr.Name _ _] _ _) _) _ _ _); refine wpAny_Assign_Name ?_)
  | (with_reducible refine wpAny_If ?_)
  | ((with_reducible show wpAny _ _ (exec (Stmt.Expr _ _) _) _ _ _); refine wpAny_Expr ?_)
  | (with_reducible refine wpAny_AugAssign_Name ?_)
  | (with_reducible refine wpAny_Return_some ?_)
  | (with_reducible refine wpAny_Break ?_)
  | ((with_reducible show wpAny _ _ (eval (PySem.Expr.Name _ _) _) _ _ _); walk_at "go name")
  | ((with_reducible show wpAny _ _ (loadName _ _) _ _ _); (with_reducible refine r_locn (by assumption) (by walk_at "lk") ?_))
  | ((with_reducible show wpAny _ _ (storeName _ _ _) _ _ _); (with_reducible refine r_store (by assumption) ?_); intro _ _)
  | ((with_reducible refine r_int (by assumption) ?_); intro _ _ _)
  | ((with_reducible refine r_str (by assumption) ?_); intro _ _ _)
  | (with_reducible refine PyProof.Rows.Constant_bool ?_)
  | (with_reducible refine wpAny_BinOp ?_)
  | ((with_reducible show wpAny _ _ (eval (PySem.Expr.List _ _) _) _ _ _); (with_reducible refine List_ ?_))
  | ((with_reducible show wpAny _ _ (newList _) _ _ _); (refine r_list (by assumption) ?_); intro _ _ _)
  | ((with_reducible show wpAny _ _ (eval (PySem.Expr.Call (PySem.Expr.Attribute _ _ _) _ _ _) _) _ _ _); refine MethodCall_ ?_)
  | ((with_reducible show wpAny _ _ (eval (PySem.Expr.Call (PySem.Expr.Name _ _) _ _ _) _) _ _ _); refine PyProof.Rows.Call_ ?_)
  | ((with_reducible show wpAny _ _ (callWith _ (Value.builtin _) _ _ _) _ _ _); first | (with_reducible refine PyProof.Rows.callWith_method0 ?_) | refine PyProof.Rows.callWith_method1 ?_)
  | ((with_reducible show wpAny _ _ (callWith _ (Value.type _) _ _ _) _ _ _); refine PySem.Pv.callWith_type1 ?_)
  | ((with_reducible show wpAny _ _ (spliced _) _ _ _); first | (with_reducible refine PyProof.Rows.args_nil ?_) | refine PyProof.Rows.args_cons ?_)
  | ((with_reducible refine r_add (by assumption) ?_); intro _ _ _)
  | ((with_reducible refine r_sub (by assumption) ?_); intro _ _ _)
  | ((with_reducible refine r_and (by assumption) ?_); intro _ _ _)
  | ((with_reducible refine r_ixor (by assumption) ?_); intro _ _ _)
  | ((with_reducible refine r_iadd (by assumption) ?_); intro _ _ _)
  | ((with_reducible refine r_range1 (by assumption) ?_); intro _ _ _ _ _ _)
  | ((with_reducible refine r_range2 (by assumption) ?_); intro _ _ _ _ _ _)
  | (with_reducible refine PySem.P.truthy_int ?_)
  | ((with_reducible show wpAny _ _ (isTrue (PySem.Expr.UnaryOp PySem.UnaryOp.Not _ _) _ _) _ _ _); (with_reducible refine isTrue_not ?_))
  | ((with_reducible show wpAny _ _ (isTrue (PySem.Expr.BinOp _ _ _ _) _ _) _ _ _); refine isTrue_plain ?_)
  | ((with_reducible show wpAny _ _ (isTrue (PySem.Expr.Name _ _) _ _) _ _ _); refine isTrue_plain ?_)
  | ((with_reducible show wpAny _ _ (isTrue (PySem.Expr.Call _ _ _ _) _ _) _ _ _); refine isTrue_plain ?_)
  | ((with_reducible show wpAny _ _ (exec (Stmt.For _ _ _ _ _) _) _ _ _); refine wpAny_For ?_)
  | ((with_reducible show wpAny _ _ (getMethod _ _ _) _ _ _); walk_at "go meth")
  | ((with_reducible show wpAny _ _ (isTrue (PySem.Expr.Compare _ [_] [_] _) _ _) _ _ _); refine wpAny_isTrue_Compare1 ?_)
  | ((with_reducible show wpAny _ _ (eval (PySem.Expr.Compare _ [_] [_] _) _) _ _ _); refine wpAny_Compare1 ?_)
  | (with_reducible refine PySem.P.lt_int ?_)
  | (with_reducible refine PySem.P.le_int ?_)
  | (with_reducible refine PySem.P.gt_int ?_)
  | (with_reducible refine PySem.P.ge_int ?_)
  | (with_reducible refine PySem.P.eq_int ?_)
  | (with_reducible refine PySem.P.ne_int ?_)
  | (with_reducible refine PySem.P.notIn_str ?_)
  | (with_reducible refine wpAny_truthy_bool ?_)
  | (with_reducible refine wpAny_IfExp ?_)
  | (with_reducible refine wpAny_UnaryOp ?_)
  | ((with_reducible refine r_neg (by assumption) ?_); intro _ _ _)
  | (with_reducible refine Subscript_ ?_)
  | ((with_reducible show wpAny _ _ (exec (Stmt.Assert _ _ _) _) _ _ _); refine wpAny_Assert rfl ?_)
  | ((with_reducible show wpAny _ _ (eval (PySem.Expr.Tuple _ _ _) _) _ _ _); (with_reducible refine Tuple_ ?_))
  | ((with_reducible show wpAny _ _ (newTuple _) _ _ _); (refine r_tuple (by assumption) ?_); intro _ _ _)
  | ((with_reducible show wpAny _ _ (callWith _ (Value.ref _) _ _ _) _ _ _); first | (with_reducible refine cw_r0 (by assumption) (by kernel_rfl) ?_) | refine cw_r (by assumption) (by kernel_rfl) ?_)
  | ((with_reducible show _ ∧ wpAny _ _ (call _ _) _ _ _); refine ⟨⟨_, _, by assumption⟩, ?_⟩)
  | (with_reducible refine useImp (by assumption) ?_)
  | dsimp only [List.cons_append, List.nil_append])
section
variable {C : Cx} {m : Str → Option Value} {led : List (Addr × Obj)} {s : Shared} {A : Around} {E : Value → Shared → Prop} {w : World}
theorem r_fdiv4 {a : Int} {t u : Tok} {Q : Value → Shared → Prop} (S : St C m led s) (k : ∀ t s', St C m led s' → Q (.int (a / 4) t) s') : wpAny (model Pr w) A (binaryOp .FloorDiv (.int a t) (.int 4 u)) Q E s := by
  refine PyProof.Rows.floordiv_int (by decide) ?_ (Or.inl (PyProof.noPylong_of_log2 (by decide +kernel)))
  rw [Int.fdiv_eq_ediv_of_nonneg _ (by decide)]
  exact k _ _ (S.toks _)
end
def endsI : Nat → List Int
  | 0 => []
  | 1 => [127, 2]
  | _ => [0, 5]
def rulerI (ds : List Int) : List Int := ((ds.take 3).map fun x => x % 4 + 1) ++ endsI ((ds.getD 2 0 / 4) % 3).toNat
set_option maxHeartbeats 8000000 in
theorem ruler_spec {C : Cx} {m : Str → Option Value} {led : List (Addr × Obj)} {s : Shared} {Q E : Value → Shared → Prop} {ld : Addr} {dv : List Value} {ed : Nat} {ds : List Int}
    (S : St C m led s) (hld : (ld, listOf dv.toArray ed) ∈ led) (hdv : IntsAre dv ds) (h3 : 3 ≤ ds.length) (h9 : ds.length ≤ 9)
    (k : ∀ l rv er s', IntsAre rv (rulerI ds) → St C m ((l, listOf rv.toArray er) :: led) s' → Q (.ref l) s') :
    wpAny (model Pr C.w) (AU 690 4900) (call (.ref 46) [.ref ld]) Q E s := by
  refine call0 [("drawn", .ref ld)] S (by rfl) (by kernel_rfl) (by decide) (by rfl) (locs (by rfl)) (by decide +kernel) (by rfl) (by rfl) (by rfl) (by rfl) ?_
  intro C' s' hw hlt hst' S'
  have hdl : dv.length = ds.length := hdv.length
  obtain ⟨t2, hd2⟩ := intsAre_get hdv 2 (ds.getD 2 0) (by rw [List.getD_eq_getElem?_getD, List.getElem?_eq_getElem (by omega)]; rfl)
  refine impGen fun Q0 hQ0 => ?_
  repeat walk_at "go"
  refine r_lcomp [] ?_
  repeat walk_at "go"
  refine wpAny_Slice ?_
  refine evalPart_none_step ?_
  refine evalPart_some_step ?_
  repeat walk_at "go"
  refine evalPart_none_step ?_
  refine r_slice_any (by assumption) (isL (by assumption) (by walk_at "mem")) .none (.int _ _) (slice_ints_uptoW hdv (by decide)) (by omega) ?_
  intro l1 v1 s1 hI1 S1
  have hl1 : v1.length = 3 := by rw [hI1.length, List.length_take]; exact Nat.min_eq_left h3
  refine r_iter_list (by assumption) (isL S1 (by walk_at "mem")) fun I s2 S2 => ?_
  refine comp_in S2 rfl (fun Q' s k => new_list Q' s k) rfl (by decide +kernel) (by rfl) (by rfl) (by rfl) (by intro _ _ _; rfl) (by intro _ _ _; rfl) (fun C' m' led' s' Q' hm S' k => self_list hm S' k) ?_
  intro C2 D2 s3 hw2 hst2 hD2 S3
  dsimp only [compEnvC, relabel]
  refine comp_loop (p0 := ?_) (px := ?_) (ifs := ?_) (act := ?_) (itP := isLstIt l1) (n := v1.toArray.size) (val := fun i v => v1.toArray[i]? = some v) (need := fun led' => ∃ n, (l1, listOf v1.toArray n) ∈ led')
    (fun i m' led' => ∃ xs e3, led' = (D2, listOf xs.toArray e3) :: _ ∧ IntsAre xs (((ds.take 3).take i).map fun x => x % 4 + 1))
    (nxt_list (fun m led s ⟨n, hm⟩ S => isL S hm)) (fin_list (fun m led s ⟨n, hm⟩ S => isL S hm) rfl) (by rintro i m' led' ⟨xs, e3, rfl, _⟩; exact ⟨_, by walk_at "mem"⟩) ⟨rfl, rfl⟩ S3.swap ⟨[], 0, rfl, .nil⟩ ?_ ?_ (by rfl) (by rfl) (by rfl) (by rfl)
  · rintro i v m₇ led₇ s₇ oJ hj hv ⟨xs, e3, rfl, hxs⟩ S₇
    have hi3 : i < 3 := by simpa [hl1] using hj
    obtain ⟨q, hq⟩ : ∃ q, (ds.take 3)[i]? = some q := ⟨_, List.getElem?_eq_getElem (by rw [List.length_take]; omega)⟩
    obtain ⟨tq, htq⟩ := intsAre_get hI1 i q hq
    have hv2 : v = .int q tq := by
      have : v1[i]? = some v := by simpa using hv
      rw [htq] at this; exact (Option.some.inj this).symm
    subst hv2
    have hxl : xs.length ≤ 3 := by rw [hxs.length, List.length_map, List.length_take, List.length_take]; omega
    refine wpAny_tests_nil ?_
    rw [if_pos rfl]
    refine act_list ?_
    repeat walk_at "go"
    refine r_mod (q % 4) (by assumption) (by decide) (Int.fmod_eq_emod_of_nonneg _ (by decide)) ?_
    intro _ _ _
    repeat walk_at "go"
    refine r_append1 (by assumption) (by simp [sizeLine_eq]; omega) ?_
    intro s8 S8
    refine ⟨_, _, S8, xs ++ [_], e3 + 1, lst_push, ?_⟩
    rw [List.take_add_one, hq, List.map_append]
    exact hxs.append (.cons _ _ .nil)
  · rintro m₇ led₇ s₇ ⟨xs, e3, rfl, hxs⟩ S₇
    refine ⟨rfl, _, _, S₇, fun s₉ S₉ => ?_⟩
    have hsz : v1.toArray.size = 3 := by simp [hl1]
    rw [hsz, List.take_of_length_le (by rw [List.length_take]; omega)] at hxs
    have hxl : xs.length = 3 := by rw [hxs.length, List.length_map, List.length_take]; omega
    repeat walk_at "go"
    refine r_item (x := .int (ds.getD 2 0) t2) (isL (by assumption) (by walk_at "mem")) (by decide) (by decide) (by simpa using hd2) ?_
    repeat walk_at "go"
    refine r_fdiv4 (by assumption) ?_
    intro _ _ _
    repeat walk_at "go"
    refine r_mod ((ds.getD 2 0 / 4) % 3) (by assumption) (by decide) (Int.fmod_eq_emod_of_nonneg _ (by decide)) ?_
    intro _ _ _
    obtain ⟨j, hj⟩ : ∃ j : Nat, (ds.getD 2 0 / 4) % 3 = j := ⟨((ds.getD 2 0 / 4) % 3).toNat, by omega⟩
    have hj3 : j < 3 := by omega
    rw [hj]
    have hfin : ∀ ys : List Value, IntsAre ys (endsI j) → IntsAre (xs ++ ys) (rulerI ds) := fun ys h => by
      unfold rulerI
      rw [hj]
      exact hxs.append h
    rcases (by omega : j = 0 ∨ j = 1 ∨ j = 2) with rfl | rfl | rfl
    · refine r_item (isL (by assumption) (by walk_at "mem")) (by decide) (by decide) rfl ?_
      refine r_addl (by assumption) (by walk_at "mem") (by walk_at "mem") (fun l9 s9 S9 => ?_) (by rw [hxl, sizeLine_eq]; decide)
      repeat walk_at "go"
      exact Ret.mk (St.keep1 (pre := [_, _, _, _, _, _]) S9) fun Z => k l9 _ 0 _ (hfin _ .nil) Z
    · refine r_item (isL (by assumption) (by walk_at "mem")) (by decide) (by decide) rfl ?_
      refine r_addl (by assumption) (by walk_at "mem") (by walk_at "mem") (fun l9 s9 S9 => ?_) (by rw [hxl, sizeLine_eq]; show 3 + 2 ≤ _; decide)
      repeat walk_at "go"
      exact Ret.mk (St.keep1 (pre := [_, _, _, _, _, _]) S9) fun Z => k l9 _ 0 _ (hfin _ (.cons _ _ (.cons _ _ .nil))) Z
    · refine r_item (isL (by assumption) (by walk_at "mem")) (by decide) (by decide) rfl ?_
      refine r_addl (by assumption) (by walk_at "mem") (by walk_at "mem") (fun l9 s9 S9 => ?_) (by rw [hxl, sizeLine_eq]; show 3 + 2 ≤ _; decide)
      repeat walk_at "go"
      exact Ret.mk (St.keep1 (pre := [_, _, _, _, _, _]) S9) fun Z => k l9 _ 0 _ (hfin _ (.cons _ _ (.cons _ _ .nil))) Z
end Mine

-- TyDeq
namespace Mine
open PySem PySem.W PyProof.Rows PySem.Calls PySem.Spec
/-- the pair at a place is in the other one -/
def matchN (sa sb : List (Nat × Int)) (i : Nat) : Bool := match sa[i]? with | some (M, c) => decide (getN sb M = some c) | none => false
def sameN (sa sb : List (Nat × Int)) : Bool := decide (sa.length = sb.length) && (List.range sa.length).all (matchN sa sb)
section
variable {A : Around} {E : Value → Shared → Prop} {s : Shared} {w : World} {id : String}
theorem forIn_ret {M : Model} {body : Nat → Option Bool × Unit → Sem (ForInStep (Option Bool × Unit))} (f : Nat → Bool) : ∀ (L : List Nat) (Q' : Option Bool × Unit → Shared → Prop),
    (∀ i ∈ L, ∀ Q₂ : ForInStep (Option Bool × Unit) → Shared → Prop, Q₂ (if f i then .yield (none, ()) else .done (some false, ())) s → wpAny M A (body i (none, ())) Q₂ E s) →
    Q' (if L.all f then (none, ()) else (some false, ())) s → wpAny M A (forIn L ((none, ()) : Option Bool × Unit) body) Q' E s
  | [], Q', _, q => wpAny_pure q
  | i :: r, Q', h, q => by
    rw [List.forIn_cons]
    refine wpAny_bind (h i (.head _) _ ?_)
    rw [List.all_cons] at q
    cases hf : f i with
    | true =>
      rw [if_pos rfl]
      rw [hf, Bool.true_and] at q
      exact forIn_ret f r Q' (fun j hj => h j (.tail _ hj)) q
    | false =>
      rw [if_neg Bool.false_ne_true]
      rw [hf, Bool.false_and, if_neg Bool.false_ne_true] at q
      exact wpAny_pure q
theorem samePairs_spec {a b : Addr} {oa ob : Obj} {ea eb : Array DictEntry} {pa pb : Nat} {ka kb : List (Str × Value)} {sa sb : List (Nat × Int)} {Q : Bool → Shared → Prop} (na : (a == sysModules) = false) (nb : (b == sysModules) = false)
    (ha : s.heap.get? a = some oa) (hb : s.heap.get? b = some ob) (da : oa.data = .dict ea pa) (db : ob.data = .dict eb pb) (Ka : PySem.KeysOf (PySem.strKind Pr w) ea) (Kb : PySem.KeysOf (PySem.strKind Pr w) eb) (Pa : Pairs (PySem.strKind Pr w) ea.toList ka) (Pb : Pairs (PySem.strKind Pr w) eb.toList kb)
    (Va : KV ka sa) (Vb : KV kb sb)
    (k : Q (sameN sa sb) s) : wpAny (model Pr w) A (Builtin.Dict.samePairs id a b) Q E s := by
  have la : ea.size = sa.length := by rw [← Va.length, ← Pa.length]; simp
  have lb : eb.size = sb.length := by rw [← Vb.length, ← Pb.length]; simp
  unfold Builtin.Dict.samePairs Builtin.Dict.showsAll
  rw [if_neg (by rw [na]; exact Bool.false_ne_true), if_neg (by rw [nb]; exact Bool.false_ne_true)]
  refine wpAny_bind (wpAny_pure (wpAny_bind (wpAny_pure ?_)))
  refine wpAny_bind (wpAny_dictEntries ha da ?_)
  refine wpAny_bind (wpAny_dictEntries hb db ?_)
  split
  · rename_i hne
    refine wpAny_bind (wpAny_rule (wpAny_pure ?_))
    have : sameN sa sb = false := by
      unfold sameN
      rw [la, lb] at hne
      have h2 : ¬ sa.length = sb.length := by simpa using hne
      rw [decide_eq_false h2]; rfl
    rw [this] at k; exact k
  · rename_i heq
    have hl : sa.length = sb.length := by rw [la, lb] at heq; simpa using heq
    have hs : sameN sa sb = (List.range sa.length).all (matchN sa sb) := by unfold sameN; rw [decide_eq_true hl, Bool.true_and]
    rw [hs] at k
    refine wpAny_bind (wpAny_dictEpoch ha da ?_)
    rw [Std.Legacy.Range.forIn_eq_forIn_range']
    have hr : List.range' [:ea.size].start [:ea.size].size [:ea.size].step = List.range sa.length := by
      rw [← la, List.range_eq_range']; simp [Std.Legacy.Range.size]
    rw [hr]
    refine wpAny_bind (forIn_ret (matchN sa sb) _ _ (fun i hil Q₂ q => ?_) ?_)
    · have hi := List.mem_range.mp hil
      refine wpAny_bind (wpAny_dictEntries ha da ?_)
      have hie : i < ea.size := by omega
      rw [Array.getElem?_eq_getElem hie]
      dsimp only
      obtain ⟨⟨M, c⟩, hM⟩ : ∃ p, sa[i]? = some p := ⟨_, List.getElem?_eq_getElem hi⟩
      obtain ⟨hM0, hM2, t, hka⟩ := Va.get i M c hM
      have hp := Pa.get? (i := i) (e := ea[i]) (by simp [hie]) hka
      obtain ⟨kk, hk1, hk2⟩ := Ka ea[i] (Array.getElem_mem hie)
      have hkk : kk = T (bitsOf M) := (PySem.strKind Pr w).inj _ _ _ hk1 hp.1
      subst hkk
      have hm : matchN sa sb i = decide (getN sb M = some c) := by unfold matchN; rw [hM]
      rw [hm] at q
      have hfi : (eb.findIdx? fun e => (PySem.strKind Pr w).is (T (bitsOf M)) e.key) = eb.toList.findIdx? fun e => (PySem.strKind Pr w).is (T (bitsOf M)) e.key := by cases eb; simp
      refine wpAny_bind (wpAny_holding (wpAny_bind ?_))
      rw [hk2]
      refine wpAny_dictFind_of hp.1 hb db Kb ?_
      rw [hfi]
      have cont : ∀ bb : Bool, bb = decide (getN sb M = some c) → wpAny (model Pr w) A (if (!bb) = true then pure (ForInStep.done ((some false, ()) : Option Bool × Unit)) else (dictEpoch a >>= fun d => if (d != pa) = true then (unsupported (toString id ++ toString ":changed-during-callback") >>= fun (_ : Unit) => pure (ForInStep.yield ((none, ()) : Option Bool × Unit))) else pure (ForInStep.yield ((none, ()) : Option Bool × Unit)))) Q₂ E s := by
        intro bb hbb
        rw [← hbb] at q
        cases bb with
        | false => exact wpAny_pure q
        | true =>
          rw [if_neg (by decide)]
          refine wpAny_bind (wpAny_dictEpoch ha da ?_)
          rw [if_neg (by simp)]
          exact wpAny_pure q
      cases hf : eb.toList.findIdx? fun e => (PySem.strKind Pr w).is (T (bitsOf M)) e.key with
      | none =>
        have hv : PySem.valueAt kb (T (bitsOf M)) = none := by
          rw [← Pb.find]
          rw [List.findIdx?_eq_none_iff] at hf
          rw [Option.map_eq_none_iff, List.find?_eq_none]
          intro x hx; rw [hf x hx]; exact Bool.false_ne_true
        have hg : getN sb M = none := by
          rcases Vb.valueAt hM0 hM2 with ⟨_, h⟩ | ⟨c', t', h, _⟩
          · exact h
          · rw [hv] at h; cases h
        exact wpAny_pure (cont false (by rw [hg]; simp))
      | some j =>
        obtain ⟨e2, h1, h2, h3⟩ := Pb.at hf
        refine wpAny_bind (wpAny_dictEntries hb db ?_)
        have h1' : eb[j]? = some e2 := by rw [← h1]; simp
        rw [h1']
        obtain ⟨c', t', h4, h5⟩ : ∃ c' t', e2.val = .int c' t' ∧ getN sb M = some c' := by
          rcases Vb.valueAt hM0 hM2 with ⟨h, _⟩ | ⟨c', t', h, h6⟩
          · rw [h3] at h; cases h
          · rw [h3] at h; exact ⟨c', t', Option.some.inj h, h6⟩
        dsimp only
        rw [hp.2, h4]
        refine wpAny_holding (wpAny_eqBool_int ?_)
        exact cont _ (by rw [h5]; exact decide_eq_decide.mpr ⟨fun e => by rw [e], fun e => (Option.some.inj e).symm⟩)
    · cases h : (List.range sa.length).all (matchN sa sb) with
      | true => rw [h] at k; exact wpAny_pure k
      | false => rw [h] at k; exact wpAny_pure k

theorem typeIs_dict {d : Addr} {o : Obj} (h : s.heap.get? d = some o) (hc : o.cls = .type "dict") : s.TypeIs (.ref d) "dict" := ⟨o, h, hc⟩
theorem ne_body {C : Cx} {m : Str → Option Value} {led : List (Addr × Obj)} {d1 d2 : Addr} {o1 o2 : Obj} {s1 s2 : List (Nat × Int)} {Q : Fin → Shared → Prop} (S : St C m led s) (h1 : (d1, o1) ∈ led) (h2 : (d2, o2) ∈ led) (D1 : DV w d1 o1 s1) (D2 : DV w d2 o2 s2) (k : Q (.done (.ret (.bool (!sameN s1 s2)))) s) :
    wpAny (model Pr w) A (Builtin.«dict.__ne__» ⟨[.ref d1, .ref d2], []⟩) Q E s := by
  obtain ⟨k1, ⟨e1, p1, x1, y1, K1, P1, n1⟩, V1⟩ := D1.dk
  obtain ⟨k2, ⟨e2, p2, x2, y2, K2, P2, n2⟩, V2⟩ := D2.dk
  have g1 := S.get h1
  have g2 := S.get h2
  unfold Builtin.«dict.__ne__»
  refine wpAny_bind ?_
  unfold Builtin.Dict.dictSlotArgs
  refine wpAny_bind (wpAny_notOrdered_dict (typeIs_dict g1 x1.1) ?_)
  show wpAny _ _ (pure (Value.ref d1, Value.ref d2)) _ _ s
  refine wpAny_pure ?_
  show wpAny _ _ (isInstance (.ref d2) (.type "dict") >>= _) _ _ s
  refine wpAny_bind (wpAny_isInstance (typeIs_dict g2 x2.1) PySem.F.sub_dict_dict ?_)
  refine wpAny_bind (wpAny_pure (wpAny_bind (wpAny_pure (wpAny_bind ?_))))
  refine samePairs_spec D1.ns D2.ns g1 g2 y1 y2 K1 K2 P1 P2 V1 V2 (wpAny_pure ?_)
  have e : (sameN s1 s2 == false) = !sameN s1 s2 := by cases sameN s1 s2 <;> rfl
  rw [e]; exact k
theorem eq_body {C : Cx} {m : Str → Option Value} {led : List (Addr × Obj)} {d1 d2 : Addr} {o1 o2 : Obj} {s1 s2 : List (Nat × Int)} {Q : Fin → Shared → Prop} (S : St C m led s) (h1 : (d1, o1) ∈ led) (h2 : (d2, o2) ∈ led) (D1 : DV w d1 o1 s1) (D2 : DV w d2 o2 s2) (k : Q (.done (.ret (.bool (sameN s1 s2)))) s) :
    wpAny (model Pr w) A (Builtin.«dict.__eq__» ⟨[.ref d1, .ref d2], []⟩) Q E s := by
  obtain ⟨k1, ⟨e1, p1, x1, y1, K1, P1, n1⟩, V1⟩ := D1.dk
  obtain ⟨k2, ⟨e2, p2, x2, y2, K2, P2, n2⟩, V2⟩ := D2.dk
  have g1 := S.get h1
  have g2 := S.get h2
  unfold Builtin.«dict.__eq__»
  refine wpAny_bind ?_
  unfold Builtin.Dict.dictSlotArgs
  refine wpAny_bind (wpAny_notOrdered_dict (typeIs_dict g1 x1.1) ?_)
  show wpAny _ _ (pure (Value.ref d1, Value.ref d2)) _ _ s
  refine wpAny_pure ?_
  show wpAny _ _ (isInstance (.ref d2) (.type "dict") >>= _) _ _ s
  refine wpAny_bind (wpAny_isInstance (typeIs_dict g2 x2.1) PySem.F.sub_dict_dict ?_)
  refine wpAny_bind (wpAny_pure (wpAny_bind (wpAny_pure (wpAny_bind ?_))))
  refine samePairs_spec D1.ns D2.ns g1 g2 y1 y2 K1 K2 P1 P2 V1 V2 (wpAny_pure ?_)
  have e : (sameN s1 s2 == true) = sameN s1 s2 := by cases sameN s1 s2 <;> rfl
  rw [e]; exact k
theorem r_dne {C : Cx} {m : Str → Option Value} {led : List (Addr × Obj)} {d1 d2 : Addr} {o1 o2 : Obj} {s1 s2 : List (Nat × Int)} {Q : Value → Shared → Prop} (S : St C m led s) (h1 : (d1, o1) ∈ led) (h2 : (d2, o2) ∈ led) (D1 : DV w d1 o1 s1) (D2 : DV w d2 o2 s2) (hu : A.units < cLine)
    (k : Q (.bool (!sameN s1 s2)) s) : wpAny (model Pr w) A (compareOp .NotEq (.ref d1) (.ref d2)) Q E s := by
  have t1 := typeIs_dict (S.get h1) D1.cls
  show wpAny _ _ (richCompare .NotEq (.ref d1) (.ref d2)) Q E s
  refine wpAny_richCompare_same_room (op := .NotEq) t1 (typeIs_dict (S.get h2) D2.cls) PySem.F.slot_dict_ne (wpAny_call_entry PySem.F.slot_dict_ne t1 PySem.F.entry_dict_ne (ne_body S h1 h2 D1 D2 ⟨_, rfl, ?_, k⟩) (PySem.F.args_dict_ne_2 _ _)) hu
  intro e; cases e
theorem r_deq {C : Cx} {m : Str → Option Value} {led : List (Addr × Obj)} {d1 d2 : Addr} {o1 o2 : Obj} {s1 s2 : List (Nat × Int)} {Q : Value → Shared → Prop} (S : St C m led s) (h1 : (d1, o1) ∈ led) (h2 : (d2, o2) ∈ led) (D1 : DV w d1 o1 s1) (D2 : DV w d2 o2 s2) (hu : A.units < cLine)
    (k : Q (.bool (sameN s1 s2)) s) : wpAny (model Pr w) A (compareOp .Eq (.ref d1) (.ref d2)) Q E s := by
  have t1 := typeIs_dict (S.get h1) D1.cls
  show wpAny _ _ (richCompare .Eq (.ref d1) (.ref d2)) Q E s
  refine wpAny_richCompare_same_room (op := .Eq) t1 (typeIs_dict (S.get h2) D2.cls) PySem.F.slot_dict_eq (wpAny_call_entry PySem.F.slot_dict_eq t1 PySem.F.entry_dict_eq (eq_body S h1 h2 D1 D2 ⟨_, rfl, ?_, k⟩) (PySem.F.args_dict_eq_2 _ _)) hu
  intro e; cases e
end
end Mine

-- TyGen
namespace Mine
open PySem PySem.W PyProof.Rows PySem.Calls PySem.Spec
open Sem (wp)
section
variable {M : Model} {A : Around} {R : GenEnd} {Y : Protocol} {n : Nat} {s₀ : Shared} {c : Code} {fs : List Frame} {s : Shared} {env : Env}
  {K : Flow → Sem Fin} {H : Value → Sem Fin} {gd : Bool → Bool} {lv : List Value → List Value}
theorem seg_bindw {α β : Type} {m : Sem α} {f : α → Sem β} {K' : β → Sem Fin} (h : wpAny M (A.over c fs) m (fun a s' => Seg M A R Y n s₀ c ((f a).wrap K' H gd lv) fs s') (fun _ _ => False) s) : Seg M A R Y n s₀ c ((m >>= f).wrap K' H gd lv) fs s := seg_bind_wrap (absurdE h)
/-- a statement without a yield -/
theorem seg_plain {st : Stmt} {rest : List Stmt} (h : wpAny M (A.over c fs) (exec st env) (fun f s' => f = .next ∧ Seg M A R Y n s₀ c ((execs rest env).wrap K H gd lv) fs s') (fun _ _ => False) s) :
    Seg M A R Y n s₀ c ((execs (st :: rest) env).wrap K H gd lv) fs s := by
  refine seg_execs_cons (seg_wrap (absurdE (wpAny_mono h (fun f s' ⟨e, h'⟩ => ?_) fun _ _ z => z)))
  subst e; exact h'
theorem seg_If {test : PySem.Expr} {body orelse : List Stmt} {pos : Pos}
    (h : wpAny M (A.over c fs) (isTrue test env (eval test env)) (fun b s' => if b = true then Seg M A R Y n s₀ c ((execs body env).wrap K H gd lv) fs s' else Seg M A R Y n s₀ c ((execs orelse env).wrap K H gd lv) fs s') (fun _ _ => False) s) :
    Seg M A R Y n s₀ c ((exec (.If test body orelse pos) env).wrap K H gd lv) fs s := by
  rw [exec_If]
  refine seg_bindw (wpAny_standAt ?_)
  refine seg_bindw (wpAny_mono h (fun b s' hb => ?_) fun _ _ z => z)
  cases b with
  | true => rw [if_pos rfl] at hb; rw [if_pos rfl]; exact hb
  | false => rw [if_neg Bool.false_ne_true] at hb; rw [if_neg Bool.false_ne_true]; exact hb
theorem seg_For {target iter : PySem.Expr} {body orelse : List Stmt} {pos : Pos}
    (h : wpAny M (A.over c fs) (eval iter env) (fun x s₁ => wpAny M (A.over c fs) (pyIter x) (fun it s₂ => ∀ (kf : Result → Sem Fin) (p : Pos), (∀ f, kf (.ok f) = K f) →
      Seg M A R Y n s₀ (.forLoop target it body orelse env) (M.den (.forLoop target it body orelse env)) (.ret kf none (gd false) (lv []) c p [] :: fs) s₂) (fun _ _ => False) s₁) (fun _ _ => False) s)
    (hs : ∀ x, foldedSetIterable iter env x = pure x := by intro _; rfl) :
    Seg M A R Y n s₀ c ((exec (.For target iter body orelse pos) env).wrap K H gd lv) fs s := by
  rw [exec_For]
  refine seg_bindw (wpAny_standAt ?_)
  refine seg_bindw (wpAny_mono h (fun x s₁ h₁ => ?_) fun _ _ z => z)
  refine seg_bindw (wpAny_of_eq (hs x) ?_)
  refine seg_bindw (wpAny_standAt ?_)
  refine seg_bindw (wpAny_holding (wpAny_mono h₁ (fun it s₂ h₂ => ?_) fun _ _ z => z))
  exact seg_call fun p => h₂ _ p fun f => rfl
end
section
variable {A : Around} {R : GenEnd} {Y : Protocol} {n : Nat} {s₀ : Shared} {fs : List Frame} {s : Shared} {env : Env} {w : World}
theorem seg_forLoop {target : PySem.Expr} {it : Value} {body orelse : List Stmt}
    (h : wpAny (model Pr w) (A.over (.forLoop target it body orelse env) fs) (pyNext it) (fun r s' => match r with
      | none => Seg (model Pr w) A R Y n s₀ (.block orelse env) ((model Pr w).den (.block orelse env)) fs s'
      | some v => wpAny (model Pr w) (A.over (.forLoop target it body orelse env) fs) (letOwnedTupleGo target it v) (fun _ s₂ => wpAny (model Pr w) (A.over (.forLoop target it body orelse env) fs) (assign target env v) (fun _ s₃ =>
          ∀ (K : Flow → Sem Fin) (H : Value → Sem Fin), K .next = .pure (.again (.forLoop target it body orelse env)) → (∀ v, K (.ret v) = .pure (.done (.ret v))) →
            Seg (model Pr w) A R Y n s₀ (.forLoop target it body orelse env) ((execs body env).wrap K H id id) fs s₃) (fun _ _ => False) s₂) (fun _ _ => False) s') (fun _ _ => False) s) :
    Seg (model Pr w) A R Y n s₀ (.forLoop target it body orelse env) ((model Pr w).den (.forLoop target it body orelse env)) fs s := by
  show Seg _ A R Y n s₀ _ ((forTurn target it body orelse env).onRaise (fun x => do noteFrame x env; theTreesLotGoes x)) fs s
  unfold forTurn
  rw [Sem.onRaise_eq_wrap]
  refine seg_bindw (wpAny_standAt ?_)
  refine seg_bindw (wpAny_onRaise (wpAny_mono h (fun r s' h' => ?_) fun _ _ z => z.elim))
  cases r with
  | none => exact seg_again rfl h'
  | some v =>
    refine seg_bindw (wpAny_mono h' (fun _ s₂ h₂ => ?_) fun _ _ z => z)
    refine seg_bindw (wpAny_mono h₂ (fun _ s₃ h₃ => ?_) fun _ _ z => z)
    rw [Sem.bind_eq_wrap', Sem.wrap_wrap]
    exact h₃ _ _ rfl fun v => rfl
theorem seg_block0 {k : Result → Sem Fin} {h : Option Value} {g : Bool} {l : List Value} {c₁ : Code} {p₁ : Pos} {kp : List Value}
    (hk : Seg (model Pr w) A R Y n s₀ c₁ (k (.ok .next)) fs s) : Seg (model Pr w) A R Y n s₀ (.block [] env) ((model Pr w).den (.block [] env)) (.ret k h g l c₁ p₁ kp :: fs) s := by
  show Seg _ A R Y n s₀ _ (leafOf (.ok .next)) _ s
  exact seg_leaf _ hk
end
section
variable {w : World} {A : Around} {s : Shared}
/-- an object of the class StopIteration -/
def IsStop (e : Value) (h : Heap) : Prop := ∃ a o, e = .ref a ∧ h.get? a = some o ∧ o.cls = .type "StopIteration"
/-- a StopIteration is made; all that stood stands -/
theorem make_stop {M : Model} {E : Value → Shared → Prop} {Q : Value → Shared → Prop}
    (h : ∀ h' e, (∀ b o, s.heap.get? b = some o → h'.get? b = some o) → IsStop e h' → Q e { s with heap := h' }) : wpAny M A (newExc (.type "StopIteration") []) Q E s := by
  have k : ∀ t o : Obj, o.cls = .type "StopIteration" → o.isFreed = false → Q (.ref (s.heap.push t).objs.size) { s with heap := (s.heap.push t).push o } := fun t o hc hf =>
    h _ _ (fun b x e => Heap.get?_push_of_some o (Heap.get?_push_of_some t e)) ⟨_, o, rfl, Heap.get?_push_size _ hf, hc⟩
  have none0 : firstArgMember (.type "StopIteration") [] = (pure .none : Sem Value) := rfl
  unfold newExc
  rw [none0]
  exact wpAny_bind (wpAny_newObj_type (wpAny_bind (wpAny_pure (wpAny_newObj_type (k _ _ rfl rfl)))))
/-- a generator that goes on is woken: it tells a value and waits, with nothing to clear up, or it is through and StopIteration is raised -/
theorem gen_woken {a : Addr} {g n : Nat} {gs : GenState} {R : GenEnd} {Y : Protocol} {Q : Fin → Shared → Prop} {E : Value → Shared → Prop} (hh : A.handled = none) (hl : s.heap.NoLimit) (hroom : A.depth < recursionLimit)
    (hg : s.heap.IsGen a g) (hgs : s.gens[g]? = some gs) (hgo : gs.Goes (model Pr w) A R Y n (.send .none) (s.setGen g .running))
    (through : ∀ x s₁, R n (s.setGen g .running) x s₁ → x = .ok (.ret .none) ∧ ∀ h' e, (∀ b o, s₁.heap.get? b = some o → h'.get? b = some o) → IsStop e h' → E e { s₁.setGen g .finished with heap := h' })
    (told : ∀ v s₁ gs', gs'.bare = true → Y (n - 1) (s.setGen g .running) v s₁ (fun r' s'' => match n with | 0 => False | m + 1 => gs'.Goes (model Pr w) A R Y m r' s'') → Q (.done (.ret v)) (s₁.setGen g gs')) :
    wpAny (model Pr w) A (Builtin.Generator.genWake (.ref a) (.send .none)) Q E s := by
  have awake : gs.status = .fresh ∨ gs.status = .suspended := by
    cases gs <;> first | exact .inl rfl | exact .inr rfl | exact hgo.elim
  unfold Builtin.Generator.genWake
  refine wpAny_bind (wpAny_holding (wpAny_genNumber hg (wpAny_bind (wpAny_genState hgs ?_))))
  have room : ∀ {f : Unit → Sem Fin}, wpAny (model Pr w) A (f ()) Q E s → wpAny (model Pr w) A (roomToWake >>= f) Q E s := fun h => wpAny_bind (wpAny_roomToWake hl hroom h)
  rcases awake with e | e <;> rw [e] <;> refine room ?_ <;> refine wpAny_resumeQ (l := []) hgs hgo (fun x s₁ hx => ?_) (fun v s₁ gs' hb hv => wpAny_pure (told v s₁ gs' hb hv))
  all_goals
    obtain ⟨rfl, hE⟩ := through x s₁ hx
    exact (wpAny_bind (make_stop fun h' e hk hs => wpAny_bind (wpAny_raiseNew_none hh (hE h' e hk hs))) : wpAny _ _ (newExc (.type "StopIteration") [] >>= fun e => raiseNew e >>= _) _ _ _)
/-- the next value of a generator -/
theorem pyNext_genB {a : Addr} {g n : Nat} {gs : GenState} {R : GenEnd} {Y : Protocol} {Q : Option Value → Shared → Prop} {E : Value → Shared → Prop} (hh : A.handled = none) (hl : s.heap.NoLimit) (hroom : A.depth < recursionLimit)
    (hg : s.heap.IsGen a g) (hgs : s.gens[g]? = some gs) (hgo : gs.Goes (model Pr w) A.in1 R Y n (.send .none) (s.setGen g .running))
    (told : ∀ v s₁ gs', gs'.bare = true → Y (n - 1) (s.setGen g .running) v s₁ (fun r' s'' => match n with | 0 => False | m + 1 => gs'.Goes (model Pr w) A.in1 R Y m r' s'') → Q (some v) (s₁.setGen g gs'))
    (through : ∀ x s₁, R n (s.setGen g .running) x s₁ → x = .ok (.ret .none) ∧ ∀ h', (∀ b o, s₁.heap.get? b = some o → h'.get? b = some o) → Q none { s₁.setGen g .finished with heap := h' }) :
    wpAny (model Pr w) A (pyNext (.ref a)) Q E s := by
  have woken := gen_woken (A := A.in1) (Q := fun f s' => ∃ v, f = .done (.ret v) ∧ Q (some v) s') (E := fun e s' => IsStop e s'.heap ∧ Q none s') hh hl hroom hg hgs hgo
    (fun x s₁ hx => ⟨(through x s₁ hx).1, fun h' e hk hs => ⟨hs, (through x s₁ hx).2 h' hk⟩⟩) fun v s₁ gs' hb hv => ⟨v, rfl, told v s₁ gs' hb hv⟩
  have called : wpAny (model Pr w) A (call (.builtin "generator.__next__") [.ref a]) (fun v s' => Q (some v) s') (fun e s' => IsStop e s'.heap ∧ Q none s') s :=
    wpAny_call_entry slot_gen_next hg.typeIs entry_gen_next woken (args_gen_next _)
  have special := wpAny_callSpecial?_slot (kw := []) (Q := fun r s' => ∃ v, r = some v ∧ Q (some v) s') hg.typeIs slot_gen_next (wpAny_mono called (fun v s' h => ⟨v, rfl, h⟩) fun _ _ h => h)
  unfold pyNext
  refine wpAny_bind (wpAny_attempt (wpAny_mono special (fun r s' h => ?_) fun e s' h => ?_))
  · obtain ⟨v, rfl, hq⟩ := h
    exact wpAny_pure hq
  · obtain ⟨⟨b, o, rfl, ho, hc⟩, hq⟩ := h
    exact wpAny_bind (wpAny_isInstance ⟨o, ho, hc⟩ isSubtype_stop (wpAny_pure hq))
end
end Mine

-- TyTold
namespace Mine
open PySem PySem.W PyProof.Rows PySem.Calls PySem.Spec
open Sem (wp)
local macro_rules | `(tactic| walk_at "lk") => `(tactic| first
  | (with_reducible exact up_hit)
  | (with_reducible exact bm_hit)
  | ((with_reducible refine up_skip (ofNe (by decide)) ?_); walk_at "lk")
  | ((with_reducible refine bm_skip (ofNe (by decide)) ?_); walk_at "lk")
  | assumption
  | (simp only [upd, bmap, ofString_inj, String.reduceEq, reduceIte]; first | done | rfl | assumption))
local macro_rules | `(tactic| walk_at "mem") => `(tactic| first | exact List.Mem.head _ | assumption | (refine List.Mem.tail _ ?_; walk_at "mem") | (refine List.mem_append_right _ ?_; walk_at "mem"))
local macro_rules | `(tactic| walk_at "go meth") => `(tactic| first
  | ((with_reducible show wpAny _ _ (getMethod (Value.ref _) (Str.ofString "append") _) _ _ _); (refine r_meth (St.get (by assumption) (by walk_at "mem")) rfl rfl PySem.F.plainAttrs_list slot_list_append ?_))
  | ((with_reducible show wpAny _ _ (getMethod (Value.ref _) (Str.ofString "index") _) _ _ _); (refine r_meth (St.get (by assumption) (by walk_at "mem")) rfl rfl PySem.F.plainAttrs_list PySem.F.slot_list_index ?_))
  | (with_reducible refine PySem.GM.join ?_)
  | (with_reducible refine PySem.GM.split ?_)
  | (with_reducible refine PySem.GM.find ?_))
-- one step of the walk by my rules
local macro_rules | `(tactic| walk_at "go name") => `(tactic| first
  | (with_reducible refine r_glob (by assumption) (by first | apply g_tab | apply g_pf | apply g_em | apply g_gi | apply g_nms | apply g_ruler | apply g_told | apply g_beads | apply g_moves | apply g_left | apply g_ways | apply g_count | apply g_du | apply g_ud | apply g_ell) ?_)
  | (with_reducible refine r_bi (by assumption) (by first | apply n_range | apply n_len | apply n_hex | apply n_sum | apply n_set | apply n_list | apply n_sorted) (by first | apply b_range | apply b_len | apply b_hex | apply b_sum | apply b_set | apply b_list | apply b_sorted) ?_)
  | (with_reducible refine r_loc (by assumption) (by walk_at "lk") ?_))
local macro_rules | `(tactic| walk_at "go") => `(tactic| first
  | (with_reducible refine wpAny_execs_cons ?_)
  | (with_reducible refine wpAny_execs_nil ?_)
  | ((with_reducible show wpAny _ _ (exec (Stmt.Assign [PySem.Expr.Name _ _] _ _) _) _ _ _); refine wpAny_Assign_Name ?_)
  | (with_reducible refine wpAny_If ?_)
  | ((with_reducible show wpAny _ _ (exec (Stmt.Expr _ _) _) _ _ _); refine wpAny_Expr ?_)
  | (with_reducible refine wpAny_AugAssign_Name ?_)
  | (with_reducible refine wpAny_Return_some ?_)
  | (with_reducible refine wpAny_Break ?_)
  | ((with_reducible show wpAny _ _ (eval (PySem.Expr.Name _ _) _) _ _ _); walk_at "go name")
  | ((with_reducible show wpAny _ _ (loadName _ _) _ _ _); (with_reducible refine r_locn (by assumption) (by walk_at "lk") ?_))
  | ((with_reducible show wpAny _ _ (storeName _ _ _) _ _ _); (with_reducible refine r_store (by assumption) ?_); intro _ _)
  | ((with_reducible refine r_int (by assumption) ?_); intro _ _ _)
  | ((with_reducible refine r_str (by assumption) ?_); intro _ _ _)
  | (with_reducible refine PyProof.Rows.Constant_bool ?_)
  | (with_reducible refine wpAny_BinOp ?_)
  | ((with_reducible show wpAny _ _ (eval (PySem.Expr.List _ _) _) _ _ _); (with_reducible refine List_ ?_))
  | ((with_reducible show wpAny _ _ (newList _) _ _ _); (refine r_list (by assumption) ?_); intro _ _ _)
  | ((with_reducible show wpAny _ _ (eval (PySem.Expr.Call (PySem.Expr.Attribute _ _ _) _ _ _) _) _ _ _); refine MethodCall_ ?_)
  | ((with_reducible show wpAny _ _ (eval (PySem.Expr.Call (PySem.Expr.Name _ _) _ _ _) _) _ _ _); refine PyProof.Rows.Call_ ?_)
  | ((with_reducible show wpAny _ _ (callWith _ (Value.builtin _) _ _ _) _ _ _); first | (with_reducible refine PyProof.Rows.callWith_method0 ?_) | refine PyProof.Rows.callWith_method1 ?_)
  | ((with_reducible show wpAny _ _ (callWith _ (Value.type _) _ _ _) _ _ _); refine PySem.Pv.callWith_type1 ?_)
  | ((with_reducible show wpAny _ _ (spliced _) _ _ _); first | (with_reducible refine PyProof.Rows.args_nil ?_) | refine PyProof.Rows.args_cons ?_)
  | ((with_reducible refine r_add (by assumption) ?_); intro _ _ _)
  | ((with_reducible refine r_sub (by assumption) ?_); intro _ _ _)
  | ((with_reducible refine r_and (by assumption) ?_); intro _ _ _)
  | ((with_reducible refine r_ixor (by assumption) ?_); intro _ _ _)
  | ((with_reducible refine r_iadd (by assumption) ?_); intro _ _ _)
  | ((with_reducible refine r_range1 (by assumption) ?_); intro _ _ _ _ _ _)
  | ((with_reducible refine r_range2 (by assumption) ?_); intro _ _ _ _ _ _)
  | (with_reducible refine PySem.P.truthy_int ?_)
  | ((with_reducible show wpAny _ _ (isTrue (PySem.Expr.UnaryOp PySem.UnaryOp.Not _ _) _ _) _ _ _); (with_reducible refine isTrue_not ?_))
  | ((with_reducible show wpAny _ _ (isTrue (PySem.Expr.BinOp _ _ _ _) _ _) _ _ _); refine isTrue_plain ?_)
  | ((with_reducible show wpAny _ _ (isTrue (PySem.Expr.Name _ _) _ _) _ _ _); refine isTrue_plain ?_)
  | ((with_reducible show wpAny _ _ (isTrue (PySem.Expr.Call _ _ _ _) _ _) _ _ _); refine isTrue_plain ?_)
  | ((with_reducible show wpAny _ _ (exec (Stmt.For _ _ _ _ _) _) _ _ _); refine wpAny_For ?_)
  | ((with_reducible show wpAny _ _ (getMethod _ _ _) _ _ _); walk_at "go meth")
  | ((with_reducible show wpAny _ _ (isTrue (PySem.Expr.Compare _ [_] [_] _) _ _) _ _ _); refine wpAny_isTrue_Compare1 ?_)
  | ((with_reducible show wpAny _ _ (eval (PySem.Expr.Compare _ [_] [_] _) _) _ _ _); refine wpAny_Compare1 ?_)
  | (with_reducible refine PySem.P.lt_int ?_)
  | (with_reducible refine PySem.P.le_int ?_)
  | (with_reducible refine PySem.P.gt_int ?_)
  | (with_reducible refine PySem.P.ge_int ?_)
  | (with_reducible refine PySem.P.eq_int ?_)
  | (with_reducible refine PySem.P.ne_int ?_)
  | (with_reducible refine PySem.P.notIn_str ?_)
  | (with_reducible refine wpAny_truthy_bool ?_)
  | (with_reducible refine wpAny_IfExp ?_)
  | (with_reducible refine wpAny_UnaryOp ?_)
  | ((with_reducible refine r_neg (by assumption) ?_); intro _ _ _)
  | (with_reducible refine Subscript_ ?_)
  | ((with_reducible show wpAny _ _ (exec (Stmt.Assert _ _ _) _) _ _ _); refine wpAny_Assert rfl ?_)
  | ((with_reducible show wpAny _ _ (eval (PySem.Expr.Tuple _ _ _) _) _ _ _); (with_reducible refine Tuple_ ?_))
  | ((with_reducible show wpAny _ _ (newTuple _) _ _ _); (refine r_tuple (by assumption) ?_); intro _ _ _)
  | ((with_reducible show wpAny _ _ (callWith _ (Value.ref _) _ _ _) _ _ _); first | (with_reducible refine cw_r0 (by assumption) (by kernel_rfl) ?_) | refine cw_r (by assumption) (by kernel_rfl) ?_)
  | ((with_reducible show _ ∧ wpAny _ _ (call _ _) _ _ _); refine ⟨⟨_, _, by assumption⟩, ?_⟩)
  | (with_reducible refine useImp (by assumption) ?_)
  | dsimp only [List.cons_append, List.nil_append])
def cut (h : Heap) (L : Nat) : Heap := { h with objs := h.objs.extract 0 L }
theorem cut_size (h : Heap) (L : Nat) : (cut h L).objs.size ≤ L := by show (h.objs.extract 0 L).size ≤ L; simp; omega
theorem cut_get {h : Heap} {L b : Nat} (hb : b < L) : (cut h L).get? b = h.get? b := by
  have e : (h.objs.extract 0 L)[b]? = h.objs[b]? := by
    rw [Array.getElem?_extract]; simp; omega
  unfold Heap.get? cut
  rw [e]
theorem cut_none {h : Heap} {L b : Nat} (hb : L ≤ b) : (cut h L).get? b = none := by
  have e : (h.objs.extract 0 L)[b]? = none := by
    rw [Array.getElem?_eq_none]; simp; omega
  unfold Heap.get? cut
  rw [e]
theorem cut_of {h : Heap} {L b : Nat} {o : Obj} (e : (cut h L).get? b = some o) : h.get? b = some o := by
  by_cases hb : b < L
  · rw [cut_get hb] at e; exact e
  · rw [cut_none (by omega)] at e; cases e
theorem callG {C : Cx} {m : Str → Option Value} {led : List (Addr × Obj)} {s : Shared} {A : Around} {E : Value → Shared → Prop} {Q : Value → Shared → Prop}
    {name qual : Str} {params : Arguments} {body : List Stmt} {scope : Scope} {dV kV doc pm cdv ct oc : Value} {an od : Option Addr} {osl : Array (Option Value)} {f : Addr} {args : List Value} (binds : List (Str × Value))
    (S : St C m led s) (ho : (KF C.w).lookup f = some ⟨oc, od, .func (fnX name qual params body scope [] dV kV doc pm an cdv ct), osl⟩) (hcd : codeIn (KF C.w) cdv qual = true) (hroom : A.depth < recursionLimit)
    (hbind : bindArgs (fnX name qual params body scope [] dV kV doc pm an cdv ct) ⟨args, []⟩ = pure binds) (hloc : ∀ y ∈ binds, scope.names.lookup y.1 = some .local)
    (hcell : ∀ x ∈ scope.names, x.2 ≠ .cell) (hco : scope.isCoroutine = false) (hgen : scope.isGenerator = true) (hk : scope.kind = .function) (hnd : decide ((binds.map (·.1)).Nodup) = true)
    (k : ∀ Lg oL oga s', (∀ p ∈ led, p.1 < Lg) → C.L < Lg → St { C with gn := C.gn.push (.fresh (.func body (envX qual scope Lg f cdv []))) } m ((Lg + 1, oga) :: (Lg, oL) :: led) s' → s'.heap.Ns Lg (bmap binds) → s'.heap.IsGen (Lg + 1) C.gn.size → s'.heap.objs.size = Lg + 2 → Q (.ref (Lg + 1)) s') :
    wpAny (model Pr C.w) A (call (.ref f) args) Q E s := by
  have lim := S.nolimit
  refine wpAny_call (codeAny_call_generator (fd := fnX name qual params body scope [] dV kV doc pm an cdv ct) hroom (S.in _ _ ho) rfl hco hgen rfl (codeRec_of S.in hcd) ?_)
  refine wpAny_of_eq hbind ?_
  refine wpAny_newFunctionEnv hcell hloc (fun h' hns hsb => ?_) hk
  have hkeep : ∀ b o, s.heap.get? b = some o → h'.get? b = some o := fun b o e => hsb.extBut b o (Nat.ne_of_lt (Heap.lt_size e)) (Heap.get?_push_of_some _ e)
  have hsz : h'.objs.size = s.heap.objs.size + 1 := by rw [hsb.1, Heap.size_push]
  refine ⟨lim.keeps hkeep, ?_⟩
  obtain ⟨oL, es, ep, hoL, hr⟩ := id hns
  have S1 := S.ofA (tk := s.toks + binds.length) (Nat.le_refl _) hkeep hoL
  have S2 := S1.push { cls := .type "generator", data := .fields #[.int (s.gens.size : Nat) 0, .str name (s.toks + binds.length), .str qual (s.toks + binds.length + 1)] }
  have hns2 : h'.Ns s.heap.objs.size (bmap binds) := (funext fun y => lookup_rev y (of_decide_eq_true hnd) : (fun x => binds.reverse.lookup x) = bmap binds) ▸ hns
  have e0 : (s.heap.objs.size + 1 : Nat) = h'.objs.size := hsz.symm
  have key := k s.heap.objs.size oL { cls := .type "generator", data := .fields #[.int (s.gens.size : Nat) 0, .str name (s.toks + binds.length), .str qual (s.toks + binds.length + 1)] }
    { s with heap := h'.push { cls := .type "generator", data := .fields #[.int (s.gens.size : Nat) 0, .str name (s.toks + binds.length), .str qual (s.toks + binds.length + 1)] }, gens := s.gens.push (.fresh (.func body (envX qual scope s.heap.objs.size f cdv []))), toks := s.toks + binds.length + 1 + 1 }
    (fun p hp => S.lt hp) S.Llt ⟨S2.F, by rw [e0]; exact S2.N, by rw [e0]; exact S2.nd, S2.kn, by show s.gens.push _ = C.gn.push _; rw [S.gn], S2.os⟩
    (hns2.keeps fun b o e => Heap.get?_push_of_some _ e) ⟨_, _, _, by rw [e0]; exact Heap.get?_push_size _ rfl, rfl, by rw [← S.gn], rfl⟩ (by show (Heap.push _ _).objs.size = _; rw [Heap.size_push, hsz])
  rw [e0] at key
  exact key
theorem g_max (w : World) : ∃ t, nsIn (KF w) mainGlobals "CHAR_MAX" = some (some (.int 127 t)) := ⟨_, by rfl⟩
/-- what the waiting generator needs, and what it finds -/
structure Pre (C : Cx) (Lg lr : Addr) (rv : List Value) (oga : Obj) (i : Nat) (s : Shared) : Prop where
  g : ∀ b o, C.g.get? b = some o → s.heap.get? b = some o
  gl : C.g.objs.size ≤ Lg
  kn : Kn C.w C.g
  l : s.heap.IsList lr rv.toArray
  lt : lr < Lg
  ga : s.heap.get? (Lg + 1) = some oga
  ns : ∃ mg, s.heap.Ns Lg mg ∧ mg "grouping" = some (.ref lr) ∧ (0 < i → mg "interval" = rv[i - 1]?)
  it : if i = 0 then s.heap.objs.size = Lg + 2 else ∃ oI, s.heap.get? (Lg + 2) = some oI ∧ isLstIt lr i oI
structure Keep (Lg : Addr) (oga : Obj) (s s' : Shared) : Prop where
  h : ∀ b o, b < Lg → s.heap.get? b = some o → s'.heap.get? b = some o
  ga : s'.heap.get? (Lg + 1) = some oga
  gn : s'.gens = s.gens
  os : s'.os = s.os
def Cg (C : Cx) (Lg : Addr) (s : Shared) : Cx := ⟨C.w, cut s.heap Lg, Lg, s.gens, s.os⟩
theorem Pre.base {C : Cx} {Lg lr : Addr} {rv : List Value} {oga : Obj} {i : Nat} {s : Shared} (P : Pre C Lg lr rv oga i s) : ∀ b o, C.g.get? b = some o → (cut s.heap Lg).get? b = some o := fun b o e => by
  rw [cut_get (Nat.lt_of_lt_of_le (Heap.lt_size e) P.gl)]; exact P.g b o e
theorem Pre.baseL {C : Cx} {Lg lr : Addr} {rv : List Value} {oga : Obj} {i : Nat} {s : Shared} (P : Pre C Lg lr rv oga i s) : (cut s.heap Lg).IsList lr rv.toArray :=
  P.l.at fun o e => by rw [cut_get P.lt]; exact e
theorem Pre.st0 {C : Cx} {Lg lr : Addr} {rv : List Value} {oga : Obj} {i : Nat} {s : Shared} {mg : Str → Option Value} (P : Pre C Lg lr rv oga i s) (h : s.heap.Ns Lg mg) : St (Cg C Lg s) mg [(Lg + 1, oga)] s :=
  ⟨⟨h, fun b o e => cut_of e, cut_size _ _⟩, fun p hp => by
    rw [List.mem_singleton] at hp; subst hp
    exact ⟨P.ga, Nat.succ_ne_self _, cut_none (Nat.le_succ _)⟩, by simp, P.kn.keeps P.base, rfl, rfl⟩
theorem Pre.st1 {C : Cx} {Lg lr : Addr} {rv : List Value} {oga oI : Obj} {i : Nat} {s : Shared} {mg : Str → Option Value} (P : Pre C Lg lr rv oga i s) (h : s.heap.Ns Lg mg) (hI : s.heap.get? (Lg + 2) = some oI) : St (Cg C Lg s) mg [(Lg + 2, oI), (Lg + 1, oga)] s :=
  ⟨⟨h, fun b o e => cut_of e, cut_size _ _⟩, fun p hp => by
    simp only [List.mem_cons, List.not_mem_nil, or_false] at hp
    rcases hp with rfl | rfl
    · exact ⟨hI, Nat.ne_of_gt (Nat.lt_add_of_pos_right (by decide)), cut_none (Nat.le_add_right _ _)⟩
    · exact ⟨P.ga, Nat.succ_ne_self _, cut_none (Nat.le_succ _)⟩, by simp, P.kn.keeps P.base, rfl, rfl⟩
theorem keep_of {C : Cx} {Lg : Addr} {oga : Obj} {s s' : Shared} {mg : Str → Option Value} {led : List (Addr × Obj)} (S : St (Cg C Lg s) mg led s') (h : (Lg + 1, oga) ∈ led) : Keep Lg oga s s' :=
  ⟨fun b o hb e => S.F.keep b o (by show (cut s.heap Lg).get? b = _; rw [cut_get hb]; exact e), S.get h, S.gn, S.os⟩
theorem pre_of {C : Cx} {Lg lr : Addr} {rv : List Value} {oga oI : Obj} {i j : Nat} {s s' : Shared} {mg : Str → Option Value} (P : Pre C Lg lr rv oga j s) (S : St (Cg C Lg s) mg [(Lg + 2, oI), (Lg + 1, oga)] s') (hi : 0 < i) (hI : isLstIt lr i oI) (h1 : mg "grouping" = some (.ref lr)) (h2 : mg "interval" = rv[i - 1]?) :
    Pre C Lg lr rv oga i s' :=
  ⟨fun b o e => S.F.keep b o (P.base b o e), P.gl, P.kn, P.baseL.at fun o e => S.F.keep _ _ e, P.lt, S.get (.tail _ (.head _)), ⟨mg, S.F.ns, h1, fun _ => h2⟩, by rw [if_neg (by omega)]; exact ⟨oI, S.get (.head _), hI⟩⟩
/-- the values told, counted from the end -/
def valAt (ns : List Int) (m : Nat) : Option Int := if m = 0 then (if ns[3]? = some 0 then ns[2]? else none) else ns[3 - m]?
def YY (C : Cx) (Lg lr : Addr) (rv : List Value) (ns : List Int) (oga : Obj) : Protocol := fun m s₀ v s₁ kap =>
  (∃ x t, valAt ns m = some x ∧ v = .int x t) ∧ Keep Lg oga s₀ s₁ ∧ (m ≠ 0 → Pre C Lg lr rv oga (4 - m) s₁ ∧ ∀ s₂, Pre C Lg lr rv oga (4 - m) s₂ → kap (.send .none) s₂)
def PP (Lg : Addr) (ns : List Int) (oga : Obj) : Nat → Shared → Shared → Prop := fun n s₀ s₁ => n = 1 ∧ ns[3]? ≠ some 0 ∧ Keep Lg oga s₀ s₁
theorem ind4 {G : Nat → Shared → Shared → Prop} {I : Nat → Shared → Shared → Prop} (step : ∀ i n s₀ s, n + i = 4 → i ≤ 3 → I i s₀ s → (∀ s₀' s', i ≤ 2 → I (i + 1) s₀' s' → G (n - 1) s₀' s') → G n s₀ s) : ∀ s₀ s, I 0 s₀ s → G 4 s₀ s := by
  have h3 : ∀ s₀ s, I 3 s₀ s → G 1 s₀ s := fun s₀ s h => step 3 1 s₀ s rfl (by omega) h (fun _ _ h => by omega)
  have h2 : ∀ s₀ s, I 2 s₀ s → G 2 s₀ s := fun s₀ s h => step 2 2 s₀ s rfl (by omega) h (fun s₀' s' _ h' => h3 s₀' s' h')
  have h1 : ∀ s₀ s, I 1 s₀ s → G 3 s₀ s := fun s₀ s h => step 1 3 s₀ s rfl (by omega) h (fun s₀' s' _ h' => h2 s₀' s' h')
  exact fun s₀ s h => step 0 4 s₀ s rfl (by omega) h (fun s₀' s' _ h' => h1 s₀' s' h')
/-- the ruler: three sizes and its end -/
structure Ruler (ns : List Int) : Prop where
  three : ∀ i, i < 3 → ∃ x, ns[i]? = some x ∧ x ≠ 0 ∧ x ≠ 127
  fourth : ns.length = 3 ∨ ns[3]? = some 127 ∨ ns[3]? = some 0
theorem seg_Return0 {M : Model} {A : Around} {R : GenEnd} {Y : Protocol} {n : Nat} {s₀ : Shared} {c : Code} {fs : List Frame} {s : Shared} {env : Env} {K : Flow → Sem Fin} {H : Value → Sem Fin} {gd : Bool → Bool} {lv : List Value → List Value} {pos : Pos} {rest : List Stmt}
    (h : Seg M A R Y n s₀ c (K (.ret .none)) fs s) : Seg M A R Y n s₀ c ((execs (.Return none pos :: rest) env).wrap K H gd lv) fs s := by
  refine seg_execs_cons ?_
  rw [exec_Return_none]
  exact seg_at h
theorem r_storeS {C : Cx} {m : Str → Option Value} {led : List (Addr × Obj)} {s : Shared} {A : Around} {E : Value → Shared → Prop} {env : Env} {M : Model} {x : Str} {v : Value} {Q : Unit → Shared → Prop} (S : St C m led s)
    (k : ∀ s', s'.heap.objs.size = s.heap.objs.size → St C (upd m x v) led s' → Q () s') (hL : env.locals = C.L := by rfl)
    (hk : env.scope.kind = .function := by rfl) (hx : env.kindOf x = some .local := by kernel_rfl) : wpAny M A (storeName env x v) Q E s :=
  wpAny_storeName_local hx (hL ▸ S.F.ns) (fun h' hn hs => k _ hs.1 ⟨S.F.set (hL ▸ hn) (hL ▸ hs), S.N.set (hL ▸ hs), S.nd, S.kn, S.gn, S.os⟩) (by rw [hk]; rfl)
set_option maxHeartbeats 4000000 in
theorem gen_seg {C : Cx} {A : Around} {s : Shared} {Lg lr : Addr} {rv : List Value} {ns : List Int} {oga : Obj} (hh : A.handled = none)
    {name qual : Str} {params : Arguments} {body : List Stmt} {scope : Scope} {dV kV doc pm cdv ct oc : Value} {an od : Option Addr} {osl : Array (Option Value)}
    (ho : (KF C.w).lookup 36 = some ⟨oc, od, .func (fnX name qual params body scope [] dV kV doc pm an cdv ct), osl⟩)
    (hrv : IntsAre rv ns) (hns : Ruler ns) (hp : Pre C Lg lr rv oga 0 s) : Seg (model Pr C.w) A (fun n s₀ r s₁ => r = .ok (.ret .none) ∧ PP Lg ns oga n s₀ s₁) (YY C Lg lr rv ns oga) 4 s (.func body (envX qual scope Lg 36 cdv [])) ((model Pr C.w).den (.func body (envX qual scope Lg 36 cdv []))) [] s := by
  cases ho
  obtain ⟨tmax, hmax⟩ := g_max C.w
  obtain ⟨mg, hmg, hg1, _⟩ := hp.ns
  have hsz : s.heap.objs.size = Lg + 2 := hp.it
  have S0 := hp.st0 hmg
  refine seg_func ?_
  refine seg_plain ?_
  repeat walk_at "go"
  refine PyProof.Rows.Constant_none ?_
  refine r_storeS S0 (fun s1 hs1 S1 => ⟨rfl, ?_⟩)
  rw [hsz] at hs1
  refine seg_execs_cons (seg_For ?_)
  refine r_loc (C := Cg C Lg s) S1 (by walk_at "lk") ?_
  refine wpAny_pyIter_list (isLb S1 hp.baseL) ?_
  intro kf p hkf
  rw [hs1]
  have S2 := S1.push (lstIt lr 0)
  rw [hs1] at S2
  refine ind4 (G := fun n s₀ s => Seg _ _ _ _ n s₀ _ _ _ s) (I := fun i s₀ s' => ∃ j mg oI, Pre C Lg lr rv oga j s₀ ∧ St (Cg C Lg s₀) mg [(Lg + 2, oI), (Lg + 1, oga)] s' ∧ isLstIt lr i oI ∧ mg "grouping" = some (.ref lr) ∧ (0 < i → mg "last_interval" = rv[i - 1]?)) ?_ _ _
    ⟨0, _, _, hp, S2, ⟨rfl, rfl⟩, by walk_at "lk", fun h => absurd h (Nat.lt_irrefl _)⟩
  rintro i n s₀ s3 hni hi3 ⟨j, mg3, oI3, hp3, S3, hI3, h1, h2⟩ IH
  refine seg_forLoop ?_
  by_cases hlt : i < rv.length
  · obtain ⟨x, hx⟩ : ∃ x, ns[i]? = some x := ⟨_, List.getElem?_eq_getElem (by rw [← hrv.length]; exact hlt)⟩
    obtain ⟨t, hvx⟩ := intsAre_get hrv i x hx
    have hL9 : ns.length = rv.length := hrv.length.symm
    refine nxt_list (need := fun _ => True) (l := lr) (its := rv.toArray) (fun m led s _ S => isLb S hp3.baseL) i mg3 _ s3 oI3 _ (by simpa using hlt) trivial hI3 S3 (fun v s4 oI4 hv hI4 S4 => ?_)
    have hv2 : v = .int x t := by
      have : rv[i]? = some v := by simpa using hv
      rw [hvx] at this; exact (Option.some.inj this).symm
    subst hv2
    refine wpAny_pure ?_
    refine wpAny_assign_Name (r_store (C := Cg C Lg s₀) S4 (fun s5 S5 => ?_))
    intro K H hK1 hK2
    refine seg_execs_cons (seg_If ?_)
    refine wpAny_isTrue_Compare1 ?_
    refine r_loc (C := Cg C Lg s₀) S5 (by walk_at "lk") ?_
    refine r_glob (C := Cg C Lg s₀) S5 hmax ?_
    repeat walk_at "go"
    by_cases h127 : x = 127
    · rw [if_pos (by rw [h127]; rfl)]
      have hi : i = 3 := by
        by_cases h : i < 3
        · obtain ⟨y, e1, _, e3⟩ := hns.three i h
          rw [hx] at e1; cases e1; exact absurd h127 e3
        · omega
      refine seg_Return0 ?_
      show Seg _ _ _ _ _ _ _ (K (.ret .none)) _ _
      rw [hK2]
      refine seg_leaf (.ok (.ret .none)) ?_
      rw [hkf]
      refine seg_end (.ok (.ret .none)) ⟨rfl, by omega, ?_, keep_of S5 (.tail _ (.head _))⟩
      rw [← hi, hx, h127]; decide
    · rw [if_neg (by simpa using h127)]
      refine seg_execs_nil ?_
      refine seg_execs_cons (seg_If ?_)
      refine wpAny_isTrue_Compare1 ?_
      refine r_loc (C := Cg C Lg s₀) S5 (by walk_at "lk") ?_
      refine r_int (C := Cg C Lg s₀) S5 (fun t6 s6 S6 => ?_)
      repeat walk_at "go"
      by_cases h0 : x = 0
      · rw [if_pos (by rw [h0]; rfl)]
        have hi : i = 3 := by
          by_cases h : i < 3
          · obtain ⟨y, e1, e2, _⟩ := hns.three i h
            rw [hx] at e1; cases e1; exact absurd h0 e2
          · omega
        refine seg_execs_cons (seg_If ?_)
        refine wpAny_isTrue_Compare1 ?_
        subst hi
        obtain ⟨y, hy, _, _⟩ := hns.three 2 (by decide)
        obtain ⟨ty, hvy⟩ := intsAre_get hrv 2 y hy
        have hlast := h2 (by decide)
        rw [show 3 - 1 = 2 from rfl, hvy] at hlast
        refine r_loc (C := Cg C Lg s₀) S6 (by walk_at "lk") ?_
        refine PyProof.Rows.Constant_none (PyProof.Rows.is_int_none ?_)
        repeat walk_at "go"
        rw [if_neg Bool.false_ne_true]
        refine seg_execs_nil ?_
        refine seg_execs_cons (seg_While fun p2 => ?_)
        refine seg_whileLoop ?_
        obtain rfl : n = 1 := by omega
        refine isTrue_plain (PyProof.Rows.Constant_bool ?_)
        repeat walk_at "go"
        rw [if_pos rfl]
        refine seg_execs_cons (seg_Expr_Yield rfl rfl rfl ?_)
        refine r_loc (C := Cg C Lg s₀) S6 (by walk_at "lk") ?_
        intro kap hkap
        refine ⟨⟨y, ty, ?_, rfl⟩, keep_of S6 (.tail _ (.head _)), fun hm => absurd rfl hm⟩
        unfold valAt
        rw [if_pos rfl, hx, h0, if_pos rfl]; exact hy
      · rw [if_neg (by simpa using h0)]
        refine seg_execs_nil ?_
        have hi2 : i ≤ 2 := by
          by_cases h : i ≤ 2
          · exact h
          · have hi : i = 3 := by omega
            subst hi
            rcases hns.fourth with h | h | h
            · omega
            · rw [hx] at h; cases h; exact absurd rfl h127
            · rw [hx] at h; cases h; exact absurd rfl h0
        obtain ⟨m, rfl⟩ : ∃ m, n = m + 1 := ⟨3 - i, by omega⟩
        refine seg_execs_cons (seg_Expr_Yield rfl rfl rfl ?_)
        refine r_loc (C := Cg C Lg s₀) S6 (by walk_at "lk") ?_
        intro kap hkap
        refine ⟨⟨x, t, ?_, rfl⟩, keep_of S6 (.tail _ (.head _)), fun hm => ?_⟩
        · unfold valAt
          rw [if_neg (by omega), show 3 - m = i from by omega]; exact hx
        · have e4 : 4 - m = i + 1 := by omega
          rw [e4]
          refine ⟨pre_of hp3 S6 (by omega) hI4 (by walk_at "lk") (by rw [Nat.add_sub_cancel, hvx]; walk_at "lk"), fun s₂ P2 => hkap .none s₂ ?_⟩
          obtain ⟨mg7, hm7, g7, i7⟩ := P2.ns
          have i7 := i7 (by omega)
          rw [Nat.add_sub_cancel, hvx] at i7
          obtain ⟨oI7, hI7, hL7⟩ : ∃ oI, s₂.heap.get? (Lg + 2) = some oI ∧ isLstIt lr (i + 1) oI := by have := P2.it; rw [if_neg (by omega)] at this; exact this
          have S7 := P2.st1 hm7 hI7
          show Seg _ _ _ _ m s₂ _ ((execs _ _).wrap K H id id) _ s₂
          refine seg_plain ?_
          refine wpAny_Assign_Name ?_
          refine r_loc (C := Cg C Lg s₂) S7 i7 ?_
          refine r_store (C := Cg C Lg s₂) S7 (fun s8 S8 => ⟨rfl, ?_⟩)
          refine seg_execs_nil ?_
          rw [hK1]
          exact seg_again rfl (IH s₂ s8 hi2 ⟨i + 1, _, oI7, P2, S8, hL7, by walk_at "lk", fun _ => by rw [Nat.add_sub_cancel, hvx]; walk_at "lk"⟩)
  · have hL9 : ns.length = rv.length := hrv.length.symm
    have hir : i = rv.length := by
      have h3 : 3 ≤ ns.length := by
        obtain ⟨y, e, _⟩ := hns.three 2 (by decide)
        obtain ⟨h, _⟩ := List.getElem?_eq_some_iff.mp e
        omega
      omega
    have hn1 : n = 1 ∧ ns.length = 3 := by
      have h3 : 3 ≤ ns.length := by
        obtain ⟨y, e, _⟩ := hns.three 2 (by decide)
        obtain ⟨h, _⟩ := List.getElem?_eq_some_iff.mp e
        omega
      omega
    have hI4 : isLstIt lr rv.toArray.size oI3 := by rw [List.size_toArray, ← hir]; exact hI3
    refine fin_list (need := fun _ => True) (l := lr) (its := rv.toArray) (fun m led s _ S => isLb S hp3.baseL) ?_ mg3 _ s3 oI3 _ trivial hI4 S3 (fun s4 S4 => ?_)
    · show (marksOver _ (A.handled, A.handled)).1 = none
      rw [hh]; rfl
    refine seg_block0 ?_
    rw [hkf]
    refine seg_execs_nil ?_
    refine seg_end (.ok (.ret .none)) ⟨rfl, hn1.1, ?_, keep_of S4 (.head _)⟩
    rw [List.getElem?_eq_none (by omega)]; exact fun q => nomatch q
end Mine

-- TyTold2
namespace Mine
open PySem PySem.W PyProof.Rows PySem.Calls PySem.Spec
open Sem (wp)
local macro_rules | `(tactic| walk_at "lk") => `(tactic| first
  | (with_reducible exact up_hit)
  | (with_reducible exact bm_hit)
  | ((with_reducible refine up_skip (ofNe (by decide)) ?_); walk_at "lk")
  | ((with_reducible refine bm_skip (ofNe (by decide)) ?_); walk_at "lk")
  | assumption
  | (simp only [upd, bmap, ofString_inj, String.reduceEq, reduceIte]; first | done | rfl | assumption))
local macro_rules | `(tactic| walk_at "mem") => `(tactic| first | exact List.Mem.head _ | assumption | (refine List.Mem.tail _ ?_; walk_at "mem") | (refine List.mem_append_right _ ?_; walk_at "mem"))
local macro_rules | `(tactic| walk_at "go meth") => `(tactic| first
  | ((with_reducible show wpAny _ _ (getMethod (Value.ref _) (Str.ofString "append") _) _ _ _); (refine r_meth (St.get (by assumption) (by walk_at "mem")) rfl rfl PySem.F.plainAttrs_list slot_list_append ?_))
  | ((with_reducible show wpAny _ _ (getMethod (Value.ref _) (Str.ofString "index") _) _ _ _); (refine r_meth (St.get (by assumption) (by walk_at "mem")) rfl rfl PySem.F.plainAttrs_list PySem.F.slot_list_index ?_))
  | (with_reducible refine PySem.GM.join ?_)
  | (with_reducible refine PySem.GM.split ?_)
  | (with_reducible refine PySem.GM.find ?_))
-- one step of the walk by my rules
local macro_rules | `(tactic| walk_at "go name") => `(tactic| first
  | (with_reducible refine r_glob (by assumption) (by first | apply g_tab | apply g_pf | apply g_em | apply g_gi | apply g_nms | apply g_ruler | apply g_told | apply g_beads | apply g_moves | apply g_left | apply g_ways | apply g_count | apply g_du | apply g_ud | apply g_ell) ?_)
  | (with_reducible refine r_bi (by assumption) (by first | apply n_range | apply n_len | apply n_hex | apply n_sum | apply n_set | apply n_list | apply n_sorted) (by first | apply b_range | apply b_len | apply b_hex | apply b_sum | apply b_set | apply b_list | apply b_sorted) ?_)
  | (with_reducible refine r_loc (by assumption) (by walk_at "lk") ?_))
local macro_rules | `(tactic| walk_at "go") => `(tactic| first
  | (with_reducible refine wpAny_execs_cons ?_)
  | (with_reducible refine wpAny_execs_nil ?_)
  | ((with_reducible show wpAny _ _ (exec (Stmt.Assign [PySem.Expr.Name _ _] _ _) _) _ _ _); refine wpAny_Assign_Name ?_)
  | (with_reducible refine wpAny_If ?_)
  | ((with_reducible show wpAny _ _ (exec (Stmt.Expr _ _) _) _ _ _); refine wpAny_Expr ?_)
  | (with_reducible refine wpAny_AugAssign_Name ?_)
  | (with_reducible refine wpAny_Return_some ?_)
  | (with_reducible refine wpAny_Break ?_)
  | ((with_reducible show wpAny _ _ (eval (PySem.Expr.Name _ _) _) _ _ _); walk_at "go name")
  | ((with_reducible show wpAny _ _ (loadName _ _) _ _ _); (with_reducible refine r_locn (by assumption) (by walk_at "lk") ?_))
  | ((with_reducible show wpAny _ _ (storeName _ _ _) _ _ _); (with_reducible refine r_store (by assumption) ?_); intro _ _)
  | ((with_reducible refine r_int (by assumption) ?_); intro _ _ _)
  | ((with_reducible refine r_str (by assumption) ?_); intro _ _ _)
  | (with_reducible refine PyProof.Rows.Constant_bool ?_)
  | (with_reducible refine wpAny_BinOp ?_)
  | ((with_reducible show wpAny _ _ (eval (PySem.Expr.List _ _) _) _ _ _); (with_reducible refine List_ ?_))
  | ((with_reducible show wpAny _ _ (newList _) _ _ _); (refine r_list (by assumption) ?_); intro _ _ _)
  | ((with_reducible show wpAny _ _ (eval (PySem.Expr.Call (PySem.Expr.Attribute _ _ _) _ _ _) _) _ _ _); refine MethodCall_ ?_)
  | ((with_reducible show wpAny _ _ (eval (PySem.Expr.Call (PySem.Expr.Name _ _) _ _ _) _) _ _ _); refine PyProof.Rows.Call_ ?_)
  | ((with_reducible show wpAny _ _ (callWith _ (Value.builtin _) _ _ _) _ _ _); first | (with_reducible refine PyProof.Rows.callWith_method0 ?_) | refine PyProof.Rows.callWith_method1 ?_)
  | ((with_reducible show wpAny _ _ (callWith _ (Value.type _) _ _ _) _ _ _); refine PySem.Pv.callWith_type1 ?_)
  | ((with_reducible show wpAny _ _ (spliced _) _ _ _); first | (with_reducible refine PyProof.Rows.args_nil ?_) | refine PyProof.Rows.args_cons ?_)
  | ((with_reducible refine r_add (by assumption) ?_); intro _ _ _)
  | ((with_reducible refine r_sub (by assumption) ?_); intro _ _ _)
  | ((with_reducible refine r_and (by assumption) ?_); intro _ _ _)
  | ((with_reducible refine r_ixor (by assumption) ?_); intro _ _ _)
  | ((with_reducible refine r_iadd (by assumption) ?_); intro _ _ _)
  | ((with_reducible refine r_range1 (by assumption) ?_); intro _ _ _ _ _ _)
  | ((with_reducible refine r_range2 (by assumption) ?_); intro _ _ _ _ _ _)
  | (with_reducible refine PySem.P.truthy_int ?_)
  | ((with_reducible show wpAny _ _ (isTrue (PySem.Expr.UnaryOp PySem.UnaryOp.Not _ _) _ _) _ _ _); (with_reducible refine isTrue_not ?_))
  | ((with_reducible show wpAny _ _ (isTrue (PySem.Expr.BinOp _ _ _ _) _ _) _ _ _); refine isTrue_plain ?_)
  | ((with_reducible show wpAny _ _ (isTrue (PySem.Expr.Name _ _) _ _) _ _ _); refine isTrue_plain ?_)
  | ((with_reducible show wpAny _ _ (isTrue (PySem.Expr.Call _ _ _ _) _ _) _ _ _); refine isTrue_plain ?_)
  | ((with_reducible show wpAny _ _ (exec (Stmt.For _ _ _ _ _) _) _ _ _); refine wpAny_For ?_)
  | ((with_reducible show wpAny _ _ (getMethod _ _ _) _ _ _); walk_at "go meth")
  | ((with_reducible show wpAny _ _ (isTrue (PySem.Expr.Compare _ [_] [_] _) _ _) _ _ _); refine wpAny_isTrue_Compare1 ?_)
  | ((with_reducible show wpAny _ _ (eval (PySem.Expr.Compare _ [_] [_] _) _) _ _ _); refine wpAny_Compare1 ?_)
  | (with_reducible refine PySem.P.lt_int ?_)
  | (with_reducible refine PySem.P.le_int ?_)
  | (with_reducible refine PySem.P.gt_int ?_)
  | (with_reducible refine PySem.P.ge_int ?_)
  | (with_reducible refine PySem.P.eq_int ?_)
  | (with_reducible refine PySem.P.ne_int ?_)
  | (with_reducible refine PySem.P.notIn_str ?_)
  | (with_reducible refine wpAny_truthy_bool ?_)
  | (with_reducible refine wpAny_IfExp ?_)
  | (with_reducible refine wpAny_UnaryOp ?_)
  | ((with_reducible refine r_neg (by assumption) ?_); intro _ _ _)
  | (with_reducible refine Subscript_ ?_)
  | ((with_reducible show wpAny _ _ (exec (Stmt.Assert _ _ _) _) _ _ _); refine wpAny_Assert rfl ?_)
  | ((with_reducible show wpAny _ _ (eval (PySem.Expr.Tuple _ _ _) _) _ _ _); (with_reducible refine Tuple_ ?_))
  | ((with_reducible show wpAny _ _ (newTuple _) _ _ _); (refine r_tuple (by assumption) ?_); intro _ _ _)
  | ((with_reducible show wpAny _ _ (callWith _ (Value.ref _) _ _ _) _ _ _); first | (with_reducible refine cw_r0 (by assumption) (by kernel_rfl) ?_) | refine cw_r (by assumption) (by kernel_rfl) ?_)
  | ((with_reducible show _ ∧ wpAny _ _ (call _ _) _ _ _); refine ⟨⟨_, _, by assumption⟩, ?_⟩)
  | (with_reducible refine useImp (by assumption) ?_)
  | dsimp only [List.cons_append, List.nil_append])
def RetG (C : Cx) (m : Str → Option Value) (Q : Value → Shared → Prop) (C' : Cx) (v : Value) (s : Shared) : Prop := ∃ m' led' gn', St { C' with gn := gn' } m' led' s ∧ (St { C with gn := gn' } m led' s → Q v s)
theorem call0G {C : Cx} {m : Str → Option Value} {led : List (Addr × Obj)} {s : Shared} {A : Around} {E : Value → Shared → Prop} {Q : Value → Shared → Prop}
    {name qual : Str} {params : Arguments} {body : List Stmt} {scope : Scope} {dV kV doc pm cdv ct oc : Value} {an od : Option Addr} {osl : Array (Option Value)} {f : Addr} {args : List Value} (binds : List (Str × Value))
    (S : St C m led s) (ho : (KF C.w).lookup f = some ⟨oc, od, .func (fnX name qual params body scope [] dV kV doc pm an cdv ct), osl⟩) (hcd : codeIn (KF C.w) cdv qual = true) (hroom : A.depth < recursionLimit)
    (hbind : bindArgs (fnX name qual params body scope [] dV kV doc pm an cdv ct) ⟨args, []⟩ = pure binds) (hloc : ∀ y ∈ binds, scope.names.lookup y.1 = some .local)
    (hcell : ∀ x ∈ scope.names, x.2 ≠ .cell) (hco : scope.isCoroutine = false) (hgen : scope.isGenerator = false) (hk : scope.kind = .function) (hnd : decide ((binds.map (·.1)).Nodup) = true)
    (h : ∀ (C' : Cx) s', C'.w = C.w → C'.gn = C.gn → (∀ p ∈ led, p.1 < C'.L) → St C' (bmap binds) led s' →
      wpAny (model Pr C'.w) (A.deeper (envX qual scope C'.L f cdv [])) (execs body (envX qual scope C'.L f cdv []))
        (fun fl s'' => RetG C m Q C' (match fl with | .ret v => v | _ => .none) s'') (fun _ _ => False) s') :
    wpAny (model Pr C.w) A (call (.ref f) args) Q E s := by
  refine callQ S ho hcd hroom hbind hloc hcell hco hgen hk hnd fun C' s' hw hg ho' hlt hst S' => ?_
  have z := h C' s' hw hg hlt S'
  rw [hw] at z
  exact wpAny_mono z (fun fl s'' q => q) fun _ _ z => z
/-- the consumer behind one step of the generator -/
theorem St.after {C : Cx} {m : Str → Option Value} {led pre : List (Addr × Obj)} {s s₁ : Shared} {Lg : Addr} {oga : Obj} {gens' : Array GenState} {g : Nat} {gx : GenState} (S : St C m (pre ++ led) s) (hled : ∀ p ∈ led, p.1 < Lg) (hL : C.L < Lg) (hg : C.g.objs.size ≤ Lg)
    (K : Keep Lg oga (s.setGen g gx) s₁) (own : List (Addr × Obj)) (hown : ∀ p ∈ own, s₁.heap.get? p.1 = some p.2 ∧ Lg ≤ p.1) (hnd : (own.map (·.1)).Nodup) : St { C with gn := gens' } m (own ++ led) { s₁ with gens := gens' } := by
  have S0 : St C m led s := S.dropPre
  obtain ⟨oL, es, ep, e1, e2⟩ := S0.F.ns
  refine ⟨⟨⟨oL, es, ep, K.h _ _ hL e1, e2⟩, fun b o e => K.h b o (Nat.lt_of_lt_of_le (Heap.lt_size e) hg) (S0.F.keep b o e), S0.F.above⟩, fun p hp => ?_, ?_, S0.kn, rfl, K.os.trans S0.os⟩
  · rcases List.mem_append.mp hp with hp | hp
    · obtain ⟨a, b⟩ := hown p hp
      refine ⟨a, Nat.ne_of_gt (Nat.lt_of_lt_of_le hL b), ?_⟩
      cases q : C.g.get? p.1 with
      | none => rfl
      | some o => exact absurd (Heap.lt_size q) (Nat.not_lt.mpr (Nat.le_trans hg b))
    · exact ⟨K.h _ _ (hled p hp) (S0.N p hp).1, (S0.N p hp).2⟩
  · rw [List.map_append, List.nodup_append]
    refine ⟨hnd, S0.nd, fun a ha b hb q => ?_⟩
    obtain ⟨z, hz, rfl⟩ := List.mem_map.mp ha
    obtain ⟨y, hy, rfl⟩ := List.mem_map.mp hb
    have h1 := (hown z hz).2
    have h2 := hled y hy
    rw [q] at h1
    exact absurd h2 (Nat.not_lt.mpr h1)
def ysI (ns : List Int) : List Int := ns.take 3 ++ [ns.getD 2 0]
def toldI (ns : List Int) : List Int := (List.range (if ns[3]? = some 0 then 4 else 3)).map fun k => ((ysI ns).take (k + 1)).sum - 1
theorem pre_gens {C : Cx} {Lg lr : Addr} {rv : List Value} {oga : Obj} {i : Nat} {s : Shared} {gens : Array GenState} (P : Pre C Lg lr rv oga i s) : Pre C Lg lr rv oga i { s with gens := gens } := ⟨P.g, P.gl, P.kn, P.l, P.lt, P.ga, P.ns, P.it⟩
theorem ys_get {ns : List Int} (h : Ruler ns) {i : Nat} (hi : i ≤ 3) {x : Int} (hx : valAt ns (3 - i) = some x) : (ysI ns)[i]? = some x := by
  have h3 : 3 ≤ ns.length := by
    obtain ⟨y, e, _⟩ := h.three 2 (by decide)
    obtain ⟨h, _⟩ := List.getElem?_eq_some_iff.mp e
    omega
  have hl : (ns.take 3).length = 3 := by rw [List.length_take]; omega
  unfold valAt at hx
  unfold ysI
  by_cases h2 : i = 3
  · subst h2
    rw [if_pos rfl] at hx
    split at hx
    · rw [List.getElem?_append_right (by omega), hl]
      obtain ⟨y, e, _⟩ := h.three 2 (by decide)
      rw [e] at hx; cases hx
      simp [List.getD_eq_getElem?_getD, e]
    · cases hx
  · rw [if_neg (by omega), show 3 - (3 - i) = i from by omega] at hx
    rw [List.getElem?_append_left (by omega), List.getElem?_take_of_lt (by omega)]; exact hx
theorem bare_set {gens : Array GenState} {g : Nat} {x : GenState} (h : AllBare gens) (hx : x.bare = true) : AllBare (gens.setIfInBounds g x) := fun y hy => by
  obtain ⟨j, hj, rfl⟩ := Array.mem_iff_getElem.mp hy
  rw [Array.size_setIfInBounds] at hj
  rw [Array.getElem_setIfInBounds hj]
  split
  · exact hx
  · exact h _ (Array.getElem_mem hj)
theorem told_take {ns : List Int} {i : Nat} {x : Int} (hx : (ysI ns)[i]? = some x) : ((ysI ns).take i).sum - 1 + x = ((ysI ns).take (i + 1)).sum - 1 := by
  rw [List.take_add_one, hx, List.sum_append]; simp; omega
theorem lst_push3 {C : Cx} {m : Str → Option Value} {s : Shared} {p q r : Addr × Obj} {D : Addr} {vs : List Value} {v : Value} {n : Nat} {led : List (Addr × Obj)} (S : St C m ([p, q, r] ++ (D, listOf (vs.toArray.push v) n) :: led) s) : St C m ([p, q, r] ++ (D, listOf (vs ++ [v]).toArray n) :: led) s := by
  rw [lst_push] at S; exact S
/-- where the loop over the generator stands -/
structure TJ (C' : Cx) (Lg lr : Addr) (rv : List Value) (ns : List Int) (oga : Obj) (led : List (Addr × Obj)) (A : Around) (s' : Shared) (i : Nat) (gn' : Array GenState) (gs : GenState) (mm : Str → Option Value) (own : List (Addr × Obj)) (lp : Addr) (vs : List Value) (ep : Nat) (tp : Tok) : Prop where
  hi : i ≤ 3
  S : St { C' with gn := gn' } mm (own ++ (lp, listOf vs.toArray ep) :: led) s'
  hlp : lp < Lg
  m1 : mm "places" = some (.ref lp)
  m2 : mm "place" = some (.int (((ysI ns).take i).sum - 1) tp)
  hvs : IntsAre vs ((List.range i).map fun k => ((ysI ns).take (k + 1)).sum - 1)
  hbare : AllBare C'.gn → AllBare gn'
  hgs : gn'[C'.gn.size]? = some gs
  hG : s'.heap.IsGen (Lg + 1) C'.gn.size
  hP : Pre C' Lg lr rv oga i s'
  hgo : ∀ s₂, Pre C' Lg lr rv oga i s₂ → gs.Goes (model Pr C'.w) A.in1 (fun n s₀ r s₁ => r = .ok (.ret .none) ∧ PP Lg ns oga n s₀ s₁) (YY C' Lg lr rv ns oga) (4 - i) (.send .none) s₂
set_option maxHeartbeats 8000000 in
theorem told_spec {C : Cx} {m : Str → Option Value} {led : List (Addr × Obj)} {s : Shared} {Q E : Value → Shared → Prop} {lr : Addr} {rv : List Value} {er : Nat} {ns : List Int}
    (S : St C m led s) (hlr : (lr, listOf rv.toArray er) ∈ led) (hrv : IntsAre rv ns) (hns : Ruler ns)
    (k : ∀ l pv ep s' gn', IntsAre pv (toldI ns) → (AllBare C.gn → AllBare gn') → St { C with gn := gn' } m ((l, listOf pv.toArray ep) :: led) s' → Q (.ref l) s') :
    wpAny (model Pr C.w) (AU 690 4900) (call (.ref 53) [.ref lr]) Q E s := by
  refine call0G [("ruler", .ref lr)] S (by rfl) (by kernel_rfl) (by decide) (by rfl) (locs (by rfl)) (by decide +kernel) (by rfl) (by rfl) (by rfl) (by rfl) ?_
  intro C' s' hw hg hlt S'
  refine impGen fun Q0 hQ0 => ?_
  repeat walk_at "go"
  refine callG [("grouping", .ref lr)] (by assumption) (by rfl) (by kernel_rfl) (show (691 : Nat) < recursionLimit by decide) (by rfl) (locs (by rfl)) (by decide +kernel) (by rfl) (by rfl) (by rfl) (by rfl) ?_
  intro Lg oL oga s1 hltg hCL S1 hNs hGen hsz
  refine wpAny_pyIter_gen hGen ?_
  have hgl : C'.g.objs.size ≤ Lg := Nat.le_of_lt (Nat.lt_of_le_of_lt S1.F.above hCL)
  have hlrg : lr < Lg := Nat.lt_trans (hlt _ hlr) hCL
  have P1 : Pre C' Lg lr rv oga 0 s1 := ⟨S1.F.keep, hgl, S1.kn, isL (C := { C' with gn := _ }) S1 (by walk_at "mem"), hlrg, S1.get (.head _), ⟨_, hNs, by walk_at "lk", fun h => absurd h (Nat.lt_irrefl _)⟩, by rw [if_pos rfl]; exact hsz⟩
  generalize hA : (AU 690 4900).deeper _ = A
  have hAh : A.handled = none := by rw [← hA]; rfl
  have hAd : A.depth < recursionLimit := by rw [← hA]; exact (by decide : (691 : Nat) < recursionLimit)
  obtain ⟨gs0, hgs0, hgo0⟩ : ∃ gs, s1.gens[C'.gn.size]? = some gs ∧ ∀ s₂, Pre C' Lg lr rv oga 0 s₂ → gs.Goes (model Pr C'.w) A.in1 (fun n s₀ r s₁ => r = .ok (.ret .none) ∧ PP Lg ns oga n s₀ s₁) (YY C' Lg lr rv ns oga) 4 (.send .none) s₂ := by
    refine ⟨_, (congrArg (fun (g : Array GenState) => g[C'.gn.size]?) S1.gn).trans Array.getElem?_push_size, ?_⟩
    intro s₂ P2
    refine ⟨rfl, ?_⟩
    exact gen_seg (A := A.in1) (show A.in1.handled = none from hAh) (by rfl) hrv hns P2
  refine codeAny_forLoop_any (fun n s' => ∃ i gn' gs mm own lp vs ep tp, n = 5 - i ∧ TJ C' Lg lr rv ns oga led A s' i gn' gs mm own lp vs ep tp) ?_ 5
    ⟨0, _, gs0, _, [(Lg + 1, oga), (Lg, oL)], _, [], 0, _, rfl, by omega, S1, ?_, by walk_at "lk", by walk_at "lk", .nil, ?_, ((congrArg (fun (g : Array GenState) => g[C'.gn.size]?) S1.gn).symm.trans hgs0), hGen, P1, hgo0⟩
  · rintro n s2 ⟨i, gn', gs, mm, own, lp, vs, ep, tp, rfl, hi, S2, hlp, m1, m2, hvs, hbare, hgs, hG, hP, hgo⟩
    refine pyNext_genB hAh S2.nolimit hAd hG (by rw [S2.gn]; exact hgs) (hgo _ (pre_gens hP)) ?_ ?_
    · intro v s3 gs' hb hY
      obtain ⟨⟨x, t, hx, rfl⟩, hK, hmore⟩ := hY
      have hx' := ys_get hns hi (show valAt ns (3 - i) = some x by rw [show 3 - i = 4 - i - 1 from by omega]; exact hx)
      have hga : s3.heap.get? (Lg + 1) = some oga := hK.ga
      have hG3 : s3.heap.IsGen (Lg + 1) C'.gn.size := by
        obtain ⟨o, nm', qn, ho, hr⟩ := hG
        have : o = oga := by rw [hP.ga] at ho; exact (Option.some.inj ho).symm
        subst this
        exact ⟨_, nm', qn, hga, hr⟩
      have hbase : ∀ p ∈ (lp, listOf vs.toArray ep) :: led, p.1 < Lg := fun p hp => by
        rcases List.mem_cons.mp hp with rfl | hp
        · exact hlp
        · exact Nat.lt_trans (hlt p hp) hCL
      have hgsz : C'.gn.size < gn'.size := (Array.getElem?_eq_some_iff.mp hgs).1
      have hgen3 : s3.gens = gn'.setIfInBounds C'.gn.size .running := by rw [hK.gn]; show s2.gens.setIfInBounds _ _ = _; rw [S2.gn]
      have hbare3 : AllBare C'.gn → AllBare (s3.setGen C'.gn.size gs').gens := fun h => by
        show AllBare (s3.gens.setIfInBounds _ _)
        rw [hgen3]; exact bare_set (bare_set (hbare h) rfl) hb
      have hgs3 : (s3.setGen C'.gn.size gs').gens[C'.gn.size]? = some gs' := by
        show (s3.gens.setIfInBounds C'.gn.size gs')[C'.gn.size]? = _
        rw [hgen3, Array.getElem?_setIfInBounds_self_of_lt (by simpa using hgsz)]
      have hvl : vs.length = i := by rw [hvs.length]; simp
      refine wpAny_pure ?_
      by_cases hi2 : i ≤ 2
      · obtain ⟨P3, hres⟩ := hmore (by omega)
        rw [show 4 - (4 - i - 1) = i + 1 from by omega] at P3 hres
        obtain ⟨mg3, hNs3, _⟩ := P3.ns
        obtain ⟨oL3, es3, ep3, hoL3, hr3⟩ := id hNs3
        obtain ⟨oI3, hI3, _⟩ : ∃ oI, s3.heap.get? (Lg + 2) = some oI ∧ isLstIt lr (i + 1) oI := by have := P3.it; rw [if_neg (by omega)] at this; exact this
        have S3 := S2.after (gens' := (s3.setGen C'.gn.size gs').gens) hbase hCL hgl hK [(Lg + 2, oI3), (Lg + 1, oga), (Lg, oL3)] (fun p hp => by
          simp only [List.mem_cons, List.not_mem_nil, or_false] at hp
          rcases hp with rfl | rfl | rfl
          · exact ⟨hI3, Nat.le_add_right _ _⟩
          · exact ⟨hga, Nat.le_add_right _ _⟩
          · exact ⟨hoL3, Nat.le_refl _⟩) (by simp)
        refine impGen fun Q1 hQ1 => ?_
        refine wpAny_assign_Name (r_store S3 (fun s5 S5 => ?_))
        repeat walk_at "go"
        rw [told_take hx']
        rename_i S6
        refine r_append (S6.perm List.perm_middle.symm) (fun s7 S7 => ?_) (by rw [List.size_toArray, hvl, sizeLine_eq]; omega)
        have S8 := S7.perm (List.perm_middle (l₁ := [(Lg + 2, oI3), (Lg + 1, oga), (Lg, oL3)]))
        repeat walk_at "go"
        refine r_len_list (its := vs.toArray.push (.int (((ysI ns).take (i + 1)).sum - 1) _)) S8 (isL S8 (by walk_at "mem")) (by rw [Array.size_push, List.size_toArray, hvl]; omega) (fun t9 s9 S9 => ?_)
        repeat walk_at "go"
        rw [if_neg (by rw [Array.size_push, List.size_toArray, hvl]; simp only [beq_iff_eq]; omega)]
        repeat walk_at "go"
        rename_i s10 S10
        have hres' : ∀ s₂, Pre C' Lg lr rv oga (i + 1) s₂ → gs'.Goes (model Pr C'.w) A.in1 (fun n s₀ r s₁ => r = .ok (.ret .none) ∧ PP Lg ns oga n s₀ s₁) (YY C' Lg lr rv ns oga) (4 - (i + 1)) (.send .none) s₂ := fun s₂ P2 => by
          have h1 := hres s₂ P2
          obtain ⟨m0, hm0⟩ : ∃ m0, 4 - i = m0 + 1 := ⟨3 - i, by omega⟩
          dsimp only at h1
          rw [hm0] at h1
          rw [show 4 - (i + 1) = m0 from by omega]; exact h1
        have hI9 : isLstIt lr (i + 1) oI3 := by
          have h1 := P3.it
          rw [if_neg (by omega)] at h1
          obtain ⟨o, ho, hq⟩ := h1
          rw [hI3] at ho; cases ho; exact hq
        have hGf : s10.heap.IsGen (Lg + 1) C'.gn.size := by
          obtain ⟨o, nm', qn, ho, hr⟩ := hG3
          rw [hga] at ho; cases ho
          exact ⟨_, nm', qn, S10.get (.tail _ (.head _)), hr⟩
        refine ⟨5 - (i + 1), by omega, i + 1, _, gs', _, [(Lg + 2, oI3), (Lg + 1, oga), (Lg, oL3)], lp, vs ++ [.int (((ysI ns).take (i + 1)).sum - 1) _], ep + 1, _, rfl, by omega, lst_push3 S10, hlp, by walk_at "lk", by rw [← told_take hx']; walk_at "lk", ?_, hbare3, hgs3, hGf, ?_, hres'⟩
        · rw [List.range_succ, List.map_append]
          exact hvs.append (.cons _ _ .nil)
        · refine ⟨S10.F.keep, hgl, P1.kn, isL S10 (by walk_at "mem"), hlrg, S10.get (.tail _ (.head _)), ?_, ?_⟩
          · obtain ⟨mg4, hNs4, g4, i4⟩ := P3.ns
            exact ⟨mg4, hNs4.at' fun o e => by rw [hoL3] at e; cases e; exact S10.get (.tail _ (.tail _ (.head _))), g4, i4⟩
          · rw [if_neg (by omega)]; exact ⟨oI3, S10.get (.head _), hI9⟩
      · have hi3 : i = 3 := by omega
        subst hi3
        have hz : ns[3]? = some 0 := by
          have hx2 : valAt ns 0 = some x := hx
          unfold valAt at hx2
          rw [if_pos rfl] at hx2
          by_cases h : ns[3]? = some 0
          · exact h
          · rw [if_neg h] at hx2; cases hx2
        have S3 := S2.after (gens' := (s3.setGen C'.gn.size gs').gens) hbase hCL hgl hK [] (fun p hp => nomatch hp) List.nodup_nil
        refine impGen fun Q1 hQ1 => ?_
        refine wpAny_assign_Name (r_store S3 (fun s5 S5 => ?_))
        repeat walk_at "go"
        rw [told_take hx']
        rename_i S6
        refine r_append S6 (fun s7 S7 => ?_) (by rw [List.size_toArray, hvl, sizeLine_eq]; omega)
        repeat walk_at "go"
        refine r_len_list (its := vs.toArray.push (.int (((ysI ns).take (3 + 1)).sum - 1) _)) S7 (isL S7 (by walk_at "mem")) (by rw [Array.size_push, List.size_toArray, hvl]; omega) (fun t9 s9 S9 => ?_)
        repeat walk_at "go"
        rw [if_pos (by rw [Array.size_push, List.size_toArray, hvl]; rfl)]
        repeat walk_at "go"
        rename_i s10 S10
        rw [lst_push] at S10
        refine ⟨_, _, _, S10, fun Z => k lp (vs ++ [_]) (ep + 1) s10 _ ?_ (fun h => hbare3 (hg ▸ h)) Z⟩
        unfold toldI
        rw [if_pos hz, show (4 : Nat) = 3 + 1 from rfl, List.range_succ, List.map_append]
        exact hvs.append (.cons _ _ .nil)
    · rintro _ s3 ⟨rfl, hn1, hn3, hK⟩
      refine ⟨rfl, fun h' hkeep => ?_⟩
      obtain rfl : i = 3 := by omega
      have hbase : ∀ p ∈ (lp, listOf vs.toArray ep) :: led, p.1 < Lg := fun p hp => by
        rcases List.mem_cons.mp hp with rfl | hp
        · exact hlp
        · exact Nat.lt_trans (hlt p hp) hCL
      have hgen3 : s3.gens = gn'.setIfInBounds C'.gn.size .running := by rw [hK.gn]; show s2.gens.setIfInBounds _ _ = _; rw [S2.gn]
      have hbare3 : AllBare C'.gn → AllBare (s3.setGen C'.gn.size .finished).gens := fun h => by
        show AllBare (s3.gens.setIfInBounds _ _)
        rw [hgen3]; exact bare_set (bare_set (hbare h) rfl) rfl
      have hK' : Keep Lg oga (s2.setGen C'.gn.size .running) { s3 with heap := h' } := ⟨fun b o hb e => hkeep _ _ (hK.h b o hb e), hkeep _ _ hK.ga, hK.gn, hK.os⟩
      have S3 := S2.after (gens' := (s3.setGen C'.gn.size .finished).gens) hbase hCL hgl hK' [] (fun p hp => nomatch hp) List.nodup_nil
      show wpAny _ _ (execs [] _) _ _ _
      refine wpAny_execs_nil ?_
      repeat walk_at "go"
      refine r_loc (C := { C' with gn := (s3.setGen C'.gn.size .finished).gens }) S3 (by walk_at "lk") ?_
      repeat walk_at "go"
      refine ⟨_, _, _, S3, fun Z => k lp vs ep _ _ ?_ (fun h => hbare3 (hg ▸ h)) Z⟩
      unfold toldI
      rw [if_neg hn3]; exact hvs
  · exact hltg _ (.head _)
  · intro h; exact h.push rfl
end Mine

-- TyAlg
namespace Mine
open PySem PySem.W PyProof.Rows PySem.Calls PySem.Spec
-- sums of counts
def coef (sm : List (Nat × Int)) (M : Nat) : Int := (getN sm M).getD 0
def sumAt (l : List (Nat × Int)) (M : Nat) : Int := (l.map fun q => if q.1 = M then q.2 else 0).sum
theorem getN_cons (p : Nat × Int) (sm : List (Nat × Int)) (M : Nat) : getN (p :: sm) M = if p.1 = M then some p.2 else getN sm M := by
  unfold getN
  rw [List.find?_cons]
  by_cases h : p.1 = M
  · simp [h]
  · simp [h]
theorem getN_map (N : Nat) (v : Int) (M : Nat) : ∀ sm : List (Nat × Int), getN (sm.map fun p => if p.1 = N then (p.1, v) else p) M = if N = M then (getN sm M).map (fun _ => v) else getN sm M
  | [] => by simp [getN]
  | p :: sm => by
    rw [List.map_cons, getN_cons, getN_cons, getN_map N v M sm]
    by_cases h : p.1 = N
    · by_cases h2 : N = M
      · simp [h, h2]
      · simp [h, h2]
    · by_cases h2 : N = M
      · subst h2; simp [h]
      · rw [if_neg h, if_neg h2, if_neg h2]
theorem getN_snoc (N : Nat) (v : Int) (M : Nat) : ∀ sm : List (Nat × Int), getN (sm ++ [(N, v)]) M = match getN sm M with | some c => some c | none => if N = M then some v else none
  | [] => by
    rw [List.nil_append, getN_cons]; rfl
  | p :: sm => by
    rw [List.cons_append, getN_cons, getN_cons, getN_snoc N v M sm]
    by_cases h : p.1 = M <;> simp [h]
theorem getN_any (M : Nat) : ∀ sm : List (Nat × Int), (sm.any fun p => decide (p.1 = M)) = (getN sm M).isSome
  | [] => rfl
  | p :: sm => by
    rw [List.any_cons, getN_cons, getN_any M sm]
    by_cases h : p.1 = M <;> simp [h]
theorem getN_put (sm : List (Nat × Int)) (N : Nat) (v : Int) (M : Nat) : getN (putN sm N v) M = if N = M then some v else getN sm M := by
  unfold putN
  rw [getN_any]
  cases h : getN sm N with
  | none =>
    rw [if_neg (by simp), getN_snoc]
    by_cases e : N = M
    · subst e; rw [h]
    · cases getN sm M <;> simp [e]
  | some c =>
    rw [if_pos (by simp), getN_map]
    by_cases e : N = M
    · subst e; rw [h]; simp
    · simp [e]
theorem coef_add (sm : List (Nat × Int)) (N : Nat) (c : Int) (M : Nat) : coef (addTo sm N c) M = coef sm M + if N = M then c else 0 := by
  unfold coef addTo
  rw [getN_put]
  by_cases e : N = M
  · subst e; simp
  · simp [e]
theorem keys_put (sm : List (Nat × Int)) (N : Nat) (v : Int) (h : (sm.map (·.1)).Nodup) : ((putN sm N v).map (·.1)).Nodup := by
  unfold putN
  split
  · rw [List.map_map]
    have : ((fun p : Nat × Int => p.1) ∘ fun p => if p.1 = N then (p.1, v) else p) = fun p => p.1 := by
      funext p; simp only [Function.comp]; split <;> rfl
    rw [this]; exact h
  · rename_i hn
    rw [List.map_append, List.nodup_append]
    refine ⟨h, by simp, fun a ha b hb e => hn ?_⟩
    simp only [List.map_cons, List.map_nil, List.mem_cons, List.not_mem_nil, or_false] at hb
    subst hb; subst e
    obtain ⟨p, hp, q⟩ := List.mem_map.mp ha
    exact List.any_eq_true.mpr ⟨p, hp, by simpa using q⟩
theorem keys_add (sm : List (Nat × Int)) (N : Nat) (v : Int) (h : (sm.map (·.1)).Nodup) : ((addTo sm N v).map (·.1)).Nodup := keys_put _ _ _ h
theorem coef_in (sg : Int) (M : Nat) : ∀ (ms sm : List (Nat × Int)), coef (inWays sm sg ms) M = coef sm M + sg * sumAt ms M
  | [], sm => by simp [inWays, sumAt]
  | q :: ms, sm => by
    have ih := coef_in sg M ms (addTo sm q.1 (sg * q.2))
    unfold inWays at ih ⊢
    rw [List.foldl_cons, ih, coef_add]
    unfold sumAt
    rw [List.map_cons, List.sum_cons, Int.mul_add]
    by_cases e : q.1 = M
    · rw [if_pos e, if_pos e]; omega
    · rw [if_neg e, if_neg e]; omega
theorem keys_in (sg : Int) : ∀ (ms sm : List (Nat × Int)), (sm.map (·.1)).Nodup → ((inWays sm sg ms).map (·.1)).Nodup
  | [], sm, h => h
  | q :: ms, sm, h => keys_in sg ms _ (keys_add _ _ _ h)
theorem coef_out (b : Int) (M : Nat) : ∀ (ms sm : List (Nat × Int)), coef (outWays sm b ms) M = coef sm M + (ms.map fun q => q.2 * sumAt (movesOf q.1 b) M).sum
  | [], sm => by simp [outWays]
  | q :: ms, sm => by
    have ih := coef_out b M ms (inWays sm q.2 (movesOf q.1 b))
    unfold outWays at ih ⊢
    rw [List.foldl_cons, ih, coef_in, List.map_cons, List.sum_cons]; omega
theorem keys_out (b : Int) : ∀ (ms sm : List (Nat × Int)), (sm.map (·.1)).Nodup → ((outWays sm b ms).map (·.1)).Nodup
  | [], sm, h => h
  | q :: ms, sm, h => keys_out b ms _ (keys_in _ _ _ h)
def val (ps : List Nat) (M : Nat) : Int := if ps.Nodup ∧ mask ps = M then 1 - (wrongs ps : Int) % 2 * 2 else 0
theorem coef_cnt (sm : List (Nat × Int)) (ps : List Nat) (M : Nat) : coef (cntTo sm ps) M = coef sm M + val ps M := by
  unfold cntTo val
  by_cases h : ps.Nodup
  · rw [if_pos h, coef_add]; simp [h]
  · rw [if_neg h]; simp [h]
theorem keys_cnt (sm : List (Nat × Int)) (ps : List Nat) (h : (sm.map (·.1)).Nodup) : ((cntTo sm ps).map (·.1)).Nodup := by
  unfold cntTo
  split
  · exact keys_add _ _ _ h
  · exact h
theorem coef_fold {f : List (Nat × Int) → Nat → List (Nat × Int)} {g : Nat → Int} {M : Nat} (h : ∀ sm i, coef (f sm i) M = coef sm M + g i) : ∀ (is : List Nat) (sm : List (Nat × Int)), coef (is.foldl f sm) M = coef sm M + (is.map g).sum
  | [], sm => by simp
  | i :: is, sm => by rw [List.foldl_cons, coef_fold h is, h, List.map_cons, List.sum_cons]; omega
theorem keys_fold {f : List (Nat × Int) → Nat → List (Nat × Int)} (h : ∀ sm i, (sm.map (·.1)).Nodup → ((f sm i).map (·.1)).Nodup) : ∀ (is : List Nat) (sm : List (Nat × Int)), (sm.map (·.1)).Nodup → ((is.foldl f sm).map (·.1)).Nodup
  | [], sm, k => k
  | i :: is, sm, k => keys_fold h is _ (h sm i k)
theorem coef_duIn (bs : List Nat) (dn u i : Nat) (M : Nat) (js : List Nat) (sm : List (Nat × Int)) : coef (duIn bs dn u i js sm) M = coef sm M + (js.map fun j => val (stepAt bs dn u i j) M).sum :=
  coef_fold (f := fun sm j => cntTo sm (stepAt bs dn u i j)) (g := fun j => val (stepAt bs dn u i j) M) (fun sm j => coef_cnt sm _ M) js sm
theorem coef_du (bs : List Nat) (dn u : Nat) (M : Nat) (is : List Nat) : coef (duOf bs dn u is) M = (is.map fun i => if dn ≤ bs.getD i 0 then ((List.range bs.length).map fun j => val (stepAt bs dn u i j) M).sum else 0).sum := by
  unfold duOf
  rw [coef_fold (M := M) (g := fun i => if dn ≤ bs.getD i 0 then ((List.range bs.length).map fun j => val (stepAt bs dn u i j) M).sum else 0) (fun sm i => ?_) is []]
  · simp [coef, getN]
  · split
    · exact coef_duIn _ _ _ _ _ _ _
    · omega
theorem keys_du (bs : List Nat) (dn u : Nat) (is : List Nat) : ((duOf bs dn u is).map (·.1)).Nodup := by
  unfold duOf
  refine keys_fold (fun sm i h => ?_) is [] List.nodup_nil
  split
  · exact keys_fold (fun sm j h => keys_cnt _ _ h) _ _ h
  · exact h
theorem coef_ud (bs : List Nat) (dn u : Nat) (M : Nat) (is : List Nat) : coef (udOf bs dn u is) M = coef (duOf bs dn u (List.range bs.length)) M + (is.map fun i => if dn ≤ bs.getD i 0 + u ∧ bs.getD i 0 < dn then val (upAt bs dn u i) M else 0).sum := by
  unfold udOf
  refine coef_fold (fun sm i => ?_) is _
  unfold upStep
  split
  · exact coef_cnt _ _ _
  · omega
theorem keys_ud (bs : List Nat) (dn u : Nat) (is : List Nat) : ((udOf bs dn u is).map (·.1)).Nodup := by
  unfold udOf
  refine keys_fold (fun sm i h => ?_) is _ (keys_du _ _ _ _)
  unfold upStep
  split
  · exact keys_cnt _ _ h
  · exact h
-- two sums told alike
theorem mem_get {sm : List (Nat × Int)} (h : (sm.map (·.1)).Nodup) {M : Nat} {c : Int} : (M, c) ∈ sm ↔ getN sm M = some c := by
  constructor
  · intro hm
    obtain ⟨i, hi⟩ := List.getElem?_of_mem hm
    exact getN_of h i M c hi
  · intro hg
    unfold getN at hg
    obtain ⟨p, hp, e⟩ := Option.map_eq_some_iff.mp hg
    have h1 := List.mem_of_find?_eq_some hp
    have h2 := List.find?_some hp
    simp only [decide_eq_true_eq] at h2
    rw [← h2, ← e]; exact h1
theorem mem_nz {sm : List (Nat × Int)} (h : (sm.map (·.1)).Nodup) {M : Nat} {c : Int} : (M, c) ∈ (sm.filter fun p => p.2 ≠ 0) ↔ coef sm M = c ∧ c ≠ 0 := by
  rw [List.mem_filter, mem_get h]
  unfold coef
  cases hg : getN sm M with
  | none => simp; omega
  | some x => simp
theorem nodup_of_keys {sm : List (Nat × Int)} (h : (sm.map (·.1)).Nodup) : sm.Nodup := by
  have h1 : sm.Pairwise fun a b => a.1 ≠ b.1 := List.pairwise_map.mp h
  exact h1.imp fun q e => q (by rw [e])
theorem same_of_coef {A B : List (Nat × Int)} (hA : (A.map (·.1)).Nodup) (hB : (B.map (·.1)).Nodup) (h : ∀ M, coef A M = coef B M) : sameN (A.filter fun p => p.2 ≠ 0) (B.filter fun p => p.2 ≠ 0) = true := by
  have hm : ∀ q : Nat × Int, q ∈ (A.filter fun p => p.2 ≠ 0) ↔ q ∈ (B.filter fun p => p.2 ≠ 0) := fun q => by
    obtain ⟨M, c⟩ := q
    rw [mem_nz hA, mem_nz hB, h M]
  have kA : ((A.filter fun p => p.2 ≠ 0).map (·.1)).Nodup := hA.sublist (List.Sublist.map _ List.filter_sublist)
  have kB : ((B.filter fun p => p.2 ≠ 0).map (·.1)).Nodup := hB.sublist (List.Sublist.map _ List.filter_sublist)
  have hp := (List.perm_ext_iff_of_nodup (nodup_of_keys kA) (nodup_of_keys kB)).mpr hm
  unfold sameN
  rw [Bool.and_eq_true]
  refine ⟨decide_eq_true hp.length_eq, List.all_eq_true.mpr fun i hi => ?_⟩
  have hi' : i < (A.filter fun p => p.2 ≠ 0).length := by simpa using hi
  unfold matchN
  obtain ⟨⟨M, c⟩, hq⟩ : ∃ q, (A.filter fun p => p.2 ≠ 0)[i]? = some q := ⟨_, List.getElem?_eq_getElem hi'⟩
  rw [hq]
  exact decide_eq_true ((mem_get kB).mp ((hm _).mp (List.mem_of_getElem? hq)))
end Mine

-- TySgn
namespace Mine
open PySem PySem.W PyProof.Rows PySem.Calls PySem.Spec
/-- 1 or -1 -/
def ee (n : Nat) : Int := 1 - (n : Int) % 2 * 2
theorem ee_add (a b : Nat) : ee (a + b) = ee a * ee b := by
  unfold ee
  rcases (by omega : a % 2 = 0 ∨ a % 2 = 1) with ha | ha <;> rcases (by omega : b % 2 = 0 ∨ b % 2 = 1) with hb | hb
  · rw [show ((a + b : Nat) : Int) % 2 = 0 from by omega, show (a : Int) % 2 = 0 from by omega, show (b : Int) % 2 = 0 from by omega]; rfl
  · rw [show ((a + b : Nat) : Int) % 2 = 1 from by omega, show (a : Int) % 2 = 0 from by omega, show (b : Int) % 2 = 1 from by omega]; rfl
  · rw [show ((a + b : Nat) : Int) % 2 = 1 from by omega, show (a : Int) % 2 = 1 from by omega, show (b : Int) % 2 = 0 from by omega]; rfl
  · rw [show ((a + b : Nat) : Int) % 2 = 0 from by omega, show (a : Int) % 2 = 1 from by omega, show (b : Int) % 2 = 1 from by omega]; rfl
/-- the sign of q - p -/
def sgn (q p : Nat) : Int := if p < q then 1 else if q < p then -1 else 0
theorem sgn_anti (a b : Nat) : sgn a b = - sgn b a := by
  unfold sgn
  by_cases h1 : b < a
  · rw [if_pos h1, if_neg (by omega), if_pos h1]; rfl
  · by_cases h2 : a < b
    · rw [if_neg h1, if_pos h2, if_pos h2]
    · rw [if_neg h1, if_neg h2, if_neg h2, if_neg h1]; rfl
def pp (p : Nat) : List Nat → Int
  | [] => 1
  | q :: r => sgn q p * pp p r
def VV : List Nat → Int
  | [] => 1
  | p :: r => pp p r * VV r
theorem pp_cons (p q : Nat) (r : List Nat) : pp p (q :: r) = sgn q p * pp p r := rfl
theorem VV_cons (p : Nat) (r : List Nat) : VV (p :: r) = pp p r * VV r := rfl
theorem pp_zero {p : Nat} : ∀ {r : List Nat}, p ∈ r → pp p r = 0
  | q :: r, h => by
    unfold pp
    rcases List.mem_cons.mp h with rfl | h
    · unfold sgn; simp
    · rw [pp_zero h, Int.mul_zero]
theorem VV_zero : ∀ {ps : List Nat}, ¬ ps.Nodup → VV ps = 0
  | [], h => absurd List.nodup_nil h
  | p :: r, h => by
    unfold VV
    by_cases hp : p ∈ r
    · rw [pp_zero hp, Int.zero_mul]
    · rw [VV_zero (ps := r) (fun q => h (List.nodup_cons.mpr ⟨hp, q⟩)), Int.mul_zero]
theorem pp_count {p : Nat} : ∀ {r : List Nat}, p ∉ r → pp p r = ee (r.countP fun q => decide (q < p))
  | [], _ => rfl
  | q :: r, h => by
    rw [List.mem_cons, not_or] at h
    unfold pp
    rw [pp_count h.2, List.countP_cons, ee_add, Int.mul_comm]
    congr 1
    unfold sgn
    by_cases h1 : p < q
    · rw [if_pos h1, if_neg (by rw [decide_eq_true_eq]; omega)]; rfl
    · rw [if_neg h1, if_pos (by omega), if_pos (by rw [decide_eq_true_eq]; omega)]; rfl
theorem wrongAt_zero (ps : List Nat) : wrongAt ps 0 = 0 := rfl
theorem wrongAt_succ (p : Nat) (r : List Nat) (k : Nat) : wrongAt (p :: r) (k + 1) = (if r.getD k 0 < p then 1 else 0) + wrongAt r k := by
  unfold wrongAt
  rw [List.range_succ_eq_map, List.filter_cons, List.filter_map, List.getD_cons_succ, List.getD_cons_zero]
  have e : ((fun m => decide (r.getD k 0 < (p :: r).getD m 0)) ∘ Nat.succ) = fun m => decide (r.getD k 0 < r.getD m 0) := by
    funext m; simp only [Function.comp, Nat.succ_eq_add_one, List.getD_cons_succ]
  rw [e]
  by_cases h : r.getD k 0 < p
  · rw [if_pos (decide_eq_true h), if_pos h, List.length_cons, List.length_map]; omega
  · rw [if_neg (by simpa using h), if_neg h, List.length_map]; omega
theorem count_range (f : Nat → Bool) : ∀ (r : List Nat), ((List.range r.length).map fun k => if f (r.getD k 0) = true then 1 else 0).sum = r.countP f
  | [] => rfl
  | q :: r => by
    rw [List.length_cons, List.range_succ_eq_map, List.map_cons, List.sum_cons, List.map_map, List.countP_cons]
    have e : ((fun k => if f ((q :: r).getD k 0) = true then 1 else 0) ∘ Nat.succ) = fun k => if f (r.getD k 0) = true then 1 else 0 := by
      funext m; simp only [Function.comp, Nat.succ_eq_add_one, List.getD_cons_succ]
    rw [e, count_range f r, List.getD_cons_zero]; omega
theorem sum_addN (f g : Nat → Nat) : ∀ l : List Nat, (l.map fun k => f k + g k).sum = (l.map f).sum + (l.map g).sum
  | [] => rfl
  | x :: l => by simp only [List.map_cons, List.sum_cons, sum_addN f g l]; omega
theorem wrongs_cons (p : Nat) (r : List Nat) : wrongs (p :: r) = (r.countP fun q => decide (q < p)) + wrongs r := by
  unfold wrongs
  rw [List.length_cons, List.range_succ_eq_map, List.map_cons, List.sum_cons, wrongAt_zero, Nat.zero_add, List.map_map]
  have e : (wrongAt (p :: r) ∘ Nat.succ) = fun k => (if (fun q => decide (q < p)) (r.getD k 0) = true then 1 else 0) + wrongAt r k := by
    funext k; simp only [Function.comp, Nat.succ_eq_add_one, wrongAt_succ, decide_eq_true_eq]
  rw [e, sum_addN, count_range (fun q => decide (q < p))]
theorem VV_wrongs : ∀ {ps : List Nat}, ps.Nodup → VV ps = ee (wrongs ps)
  | [], _ => rfl
  | p :: r, h => by
    rw [List.nodup_cons] at h
    unfold VV
    rw [pp_count h.1, VV_wrongs h.2, wrongs_cons, ee_add]
theorem val_VV (ps : List Nat) (M : Nat) : val ps M = if mask ps = M then VV ps else 0 := by
  unfold val
  by_cases h : ps.Nodup
  · rw [VV_wrongs h]; simp only [h, true_and]; rfl
  · rw [VV_zero h, if_neg (fun q => h q.1)]; simp
theorem VV_sorted {ps : List Nat} (h : ps.Pairwise (· < ·)) : VV ps = 1 := by
  induction ps with
  | nil => rfl
  | cons p r ih =>
    rw [List.pairwise_cons] at h
    unfold VV
    rw [ih h.2, Int.mul_one, pp_count (fun q => Nat.lt_irrefl _ (h.1 _ q)), List.countP_eq_zero.mpr (fun q hq => by have := h.1 q hq; simp; omega)]; rfl
/-- strictly between -/
def bet (p g x : Nat) : Bool := decide ((p < x ∧ x < g) ∨ (g < x ∧ x < p))
theorem sgn_bet {x p g : Nat} (h1 : x ≠ p) (h2 : x ≠ g) : sgn x g = sgn x p * ee (if bet p g x = true then 1 else 0) := by
  have hb : bet p g x = true ↔ ((p < x ∧ x < g) ∨ (g < x ∧ x < p)) := by unfold bet; exact decide_eq_true_iff
  unfold sgn
  by_cases a : g < x <;> by_cases b : p < x
  · rw [if_pos a, if_pos b, if_neg (fun q => by have := hb.mp q; omega)]; rfl
  · rw [if_pos a, if_neg b, if_pos (show x < p by omega), if_pos (hb.mpr (by omega))]; rfl
  · rw [if_neg a, if_pos (show x < g by omega), if_pos b, if_pos (hb.mpr (by omega))]; rfl
  · rw [if_neg a, if_pos (show x < g by omega), if_neg b, if_pos (show x < p by omega), if_neg (fun q => by have := hb.mp q; omega)]; rfl
theorem pp_move {p g : Nat} : ∀ {r : List Nat}, p ∉ r → g ∉ r → pp g r = pp p r * ee (r.countP (bet p g))
  | [], _, _ => rfl
  | x :: r, h1, h2 => by
    rw [List.mem_cons, not_or] at h1 h2
    unfold pp
    rw [pp_move h1.2 h2.2, List.countP_cons, ee_add, sgn_bet (Ne.symm h1.1) (Ne.symm h2.1)]
    grind
theorem bet_comm3 {p g q : Nat} (h1 : q ≠ p) (h2 : q ≠ g) : sgn g q = sgn p q * ee (if bet p g q = true then 1 else 0) := by
  rw [sgn_anti g q, sgn_anti p q, sgn_bet h1 h2]; grind
theorem pp_set {q g : Nat} : ∀ {r : List Nat} {j : Nat} {p : Nat}, r[j]? = some p → q ≠ p → q ≠ g → pp q (r.set j g) = pp q r * ee (if bet p g q = true then 1 else 0)
  | x :: r, 0, p, h, h1, h2 => by
    cases h
    rw [List.set_cons_zero]
    unfold pp
    rw [bet_comm3 h1 h2]; grind
  | x :: r, j + 1, p, h, h1, h2 => by
    rw [List.set_cons_succ]
    unfold pp
    rw [pp_set (r := r) (j := j) (p := p) (by simpa using h) h1 h2]; grind
theorem bet_self (p g : Nat) : bet p g p = false := by unfold bet; simp
theorem VV_set {g : Nat} : ∀ {ps : List Nat} {j : Nat} {p : Nat}, ps.Nodup → ps[j]? = some p → g ∉ ps → VV (ps.set j g) = VV ps * ee (ps.countP (bet p g))
  | q :: r, 0, p, hn, h, hg => by
    cases h
    rw [List.nodup_cons] at hn
    rw [List.mem_cons, not_or] at hg
    rw [List.set_cons_zero, List.countP_cons, bet_self]
    unfold VV
    rw [pp_move hn.1 hg.2]; simp only [Bool.false_eq_true, if_false, Nat.add_zero]; grind
  | q :: r, j + 1, p, hn, h, hg => by
    rw [List.nodup_cons] at hn
    rw [List.mem_cons, not_or] at hg
    have hp : r[j]? = some p := by simpa using h
    have hq : q ≠ p := fun e => hn.1 (e ▸ List.mem_of_getElem? hp)
    rw [List.set_cons_succ, List.countP_cons]
    unfold VV
    rw [pp_set hp hq (Ne.symm hg.1), VV_set hn.2 hp hg.2, ee_add]; grind
-- two places changed at once
theorem pp_one (c : Nat) : ∀ (r : List Nat) (m : Nat), m < r.length → ∃ R : Int, ∀ b, pp c (r.set m b) = sgn b c * R
  | x :: r, 0, _ => ⟨pp c r, fun b => rfl⟩
  | x :: r, m + 1, h => by
    obtain ⟨R, hR⟩ := pp_one c r m (by simpa using h)
    refine ⟨sgn x c * R, fun b => ?_⟩
    rw [List.set_cons_succ]
    unfold pp
    rw [hR]; grind
theorem pp_two (c : Nat) : ∀ (r : List Nat) (k m : Nat), k < m → m < r.length → ∃ R : Int, ∀ a b, pp c ((r.set k a).set m b) = sgn a c * sgn b c * R
  | x :: r, 0, m + 1, _, h => by
    obtain ⟨R, hR⟩ := pp_one c r m (by simpa using h)
    refine ⟨R, fun a b => ?_⟩
    rw [List.set_cons_zero, List.set_cons_succ]
    unfold pp
    rw [hR]; grind
  | x :: r, k + 1, m + 1, hk, h => by
    obtain ⟨R, hR⟩ := pp_two c r k m (by omega) (by simpa using h)
    refine ⟨sgn x c * R, fun a b => ?_⟩
    rw [List.set_cons_succ, List.set_cons_succ]
    unfold pp
    rw [hR]; grind
theorem VV_swap0 (a b : Nat) : ∀ (r : List Nat) (m : Nat), m < r.length → pp a (r.set m b) * VV (r.set m b) = -(pp b (r.set m a) * VV (r.set m a))
  | c :: r, 0, _ => by
    rw [List.set_cons_zero, List.set_cons_zero]
    rw [VV_cons, VV_cons, pp_cons, pp_cons, sgn_anti b a]; grind
  | c :: r, m + 1, h => by
    obtain ⟨R, hR⟩ := pp_one c r m (by simpa using h)
    have ih := VV_swap0 a b r m (by simpa using h)
    rw [List.set_cons_succ, List.set_cons_succ]
    rw [VV_cons, VV_cons, pp_cons, pp_cons, hR, hR, sgn_anti c a, sgn_anti c b]; grind
theorem VV_swap_lt (a b : Nat) : ∀ (l : List Nat) (k m : Nat), k < m → m < l.length → VV ((l.set k a).set m b) = -VV ((l.set k b).set m a)
  | c :: r, 0, m + 1, _, h => by
    rw [List.set_cons_zero, List.set_cons_succ, List.set_cons_zero, List.set_cons_succ]
    rw [VV_cons, VV_cons]
    exact VV_swap0 a b r m (by simpa using h)
  | c :: r, k + 1, m + 1, hk, h => by
    obtain ⟨R, hR⟩ := pp_two c r k m (by omega) (by simpa using h)
    have ih := VV_swap_lt a b r k m (by omega) (by simpa using h)
    rw [List.set_cons_succ, List.set_cons_succ, List.set_cons_succ, List.set_cons_succ]
    rw [VV_cons, VV_cons, hR, hR, ih]; grind
theorem VV_swap (a b : Nat) (l : List Nat) (k m : Nat) (hne : k ≠ m) (hk : k < l.length) (hm : m < l.length) : VV ((l.set k a).set m b) = -VV ((l.set k b).set m a) := by
  rcases Nat.lt_or_gt_of_ne hne with h | h
  · exact VV_swap_lt a b l k m h hm
  · rw [List.set_comm a b hne, List.set_comm b a hne, VV_swap_lt b a l m k h hk]
theorem mask_set : ∀ (l : List Nat) (k : Nat) (p x : Nat), l[k]? = some p → mask (l.set k x) + 2 ^ p = mask l + 2 ^ x
  | c :: r, 0, p, x, h => by
    cases h
    rw [List.set_cons_zero]
    unfold mask
    rw [List.map_cons, List.sum_cons, List.map_cons, List.sum_cons]; omega
  | c :: r, k + 1, p, x, h => by
    have ih := mask_set r k p x (by simpa using h)
    rw [List.set_cons_succ]
    unfold mask at ih ⊢
    rw [List.map_cons, List.sum_cons, List.map_cons, List.sum_cons]; omega
theorem mask_swap (a b : Nat) (l : List Nat) (k m : Nat) (hne : k ≠ m) (hk : k < l.length) (hm : m < l.length) : mask ((l.set k a).set m b) = mask ((l.set k b).set m a) := by
  obtain ⟨p, hp⟩ : ∃ p, l[k]? = some p := ⟨_, List.getElem?_eq_getElem hk⟩
  obtain ⟨q, hq⟩ : ∃ q, l[m]? = some q := ⟨_, List.getElem?_eq_getElem hm⟩
  have h1 := mask_set l k p a hp
  have h2 := mask_set l k p b hp
  have h3 := mask_set (l.set k a) m q b (by rw [List.getElem?_set_ne hne]; exact hq)
  have h4 := mask_set (l.set k b) m q a (by rw [List.getElem?_set_ne hne]; exact hq)
  omega
end Mine

-- TyHeis
namespace Mine
open PySem PySem.W PyProof.Rows PySem.Calls PySem.Spec
theorem sum_addI (f g : Nat → Int) : ∀ l : List Nat, (l.map fun k => f k + g k).sum = (l.map f).sum + (l.map g).sum
  | [] => rfl
  | x :: l => by simp only [List.map_cons, List.sum_cons, sum_addI f g l]; omega
theorem sum_mulI {α : Type} (c : Int) (f : α → Int) : ∀ l : List α, c * (l.map f).sum = (l.map fun k => c * f k).sum
  | [] => by simp
  | x :: l => by simp only [List.map_cons, List.sum_cons, ← sum_mulI c f l, Int.mul_add]
theorem sum_permI {l l' : List Int} (h : l.Perm l') : l.sum = l'.sum := by
  induction h with
  | nil => rfl
  | cons x _ ih => rw [List.sum_cons, List.sum_cons, ih]
  | swap x y l => simp only [List.sum_cons]; omega
  | trans _ _ a b => exact a.trans b
theorem sum_zero {α : Type} (f : α → Int) : ∀ l : List α, (∀ x ∈ l, f x = 0) → (l.map f).sum = 0
  | [], _ => rfl
  | x :: l, h => by rw [List.map_cons, List.sum_cons, h x (.head _), sum_zero f l fun y hy => h y (.tail _ hy)]; rfl
theorem sum_swap (f : Nat → Nat → Int) (bs : List Nat) : ∀ as : List Nat, (as.map fun i => (bs.map fun j => f i j).sum).sum = (bs.map fun j => (as.map fun i => f i j).sum).sum
  | [] => by simp only [List.map_nil, List.sum_nil]; rw [sum_zero _ _ fun _ _ => rfl]
  | a :: as => by
    simp only [List.map_cons, List.sum_cons]
    rw [sum_swap f bs as, sum_addI]
theorem sum_congr {α : Type} {f g : α → Int} {l : List α} (h : ∀ x ∈ l, f x = g x) : (l.map f).sum = (l.map g).sum := by rw [List.map_congr_left h]
theorem sum_one (c : Int) (k : Nat) : ∀ n, k < n → ((List.range n).map fun j => if j = k then c else 0).sum = c
  | 0, h => absurd h (Nat.not_lt_zero _)
  | n + 1, h => by
    rw [List.range_succ, List.map_append, List.sum_append]
    simp only [List.map_cons, List.map_nil, List.sum_cons, List.sum_nil]
    by_cases e : n = k
    · subst e
      rw [if_pos rfl, sum_zero _ _ fun x hx => if_neg (fun q => by have := List.mem_range.mp hx; omega)]; omega
    · rw [if_neg e, sum_one c k n (by omega)]; omega
theorem sum_two (f : Nat → Int) {k m n : Nat} (hk : k < n) (hm : m < n) (hne : k ≠ m) (h0 : ∀ j, j ≠ k → j ≠ m → f j = 0) (h : f k + f m = 0) : ((List.range n).map f).sum = 0 := by
  rw [sum_congr (g := fun j => (if j = k then f k else 0) + (if j = m then f m else 0)) fun j _ => ?_, sum_addI, sum_one _ _ _ hk, sum_one _ _ _ hm, h]
  by_cases e : j = k
  · subst e; rw [if_pos rfl, if_neg hne]; omega
  · by_cases e2 : j = m
    · subst e2; rw [if_neg e, if_pos rfl]; omega
    · rw [if_neg e, if_neg e2, h0 j e e2]; rfl
theorem sum_getD (f : Nat → Int) (l : List Nat) : (l.map f).sum = ((List.range l.length).map fun j => f (l.getD j 0)).sum := by
  congr 1
  refine List.ext_getElem (by simp) fun i h1 h2 => ?_
  have : i < l.length := by simpa using h1
  simp [List.getD_eq_getElem?_getD, this]
theorem fm_sum {α β : Type} (f : α → Option β) (g : β → Int) : ∀ l : List α, ((l.filterMap f).map g).sum = (l.map fun x => match f x with | some q => g q | none => 0).sum
  | [] => rfl
  | x :: l => by
    rw [List.filterMap_cons, List.map_cons, List.sum_cons, ← fm_sum f g l]
    cases h : f x with
    | none => simp
    | some q => simp
theorem cnt_add {f g h : Nat → Bool} : ∀ {l : List Nat}, (∀ x ∈ l, (if f x = true then 1 else 0) = (if g x = true then 1 else 0) + (if h x = true then 1 else 0)) → l.countP f = l.countP g + l.countP h
  | [], _ => rfl
  | x :: l, q => by
    rw [List.countP_cons, List.countP_cons, List.countP_cons, cnt_add fun y hy => q y (.tail _ hy), q x (.head _)]; omega
theorem cnt_or {f g h : Nat → Bool} {l : List Nat} (h1 : ∀ x ∈ l, f x = true ↔ g x = true ∨ h x = true) (h2 : ∀ x ∈ l, ¬ (g x = true ∧ h x = true)) : l.countP f = l.countP g + l.countP h := cnt_add fun x hx => by
  have a := h1 x hx
  have b := h2 x hx
  revert a b
  cases f x <;> cases g x <;> cases h x <;> decide
theorem cnt_set (f : Nat → Bool) (x : Nat) : ∀ {l : List Nat} {j p : Nat}, l[j]? = some p → (l.set j x).countP f + (if f p = true then 1 else 0) = l.countP f + (if f x = true then 1 else 0)
  | q :: r, 0, p, h => by
    cases h
    rw [List.set_cons_zero, List.countP_cons, List.countP_cons]; omega
  | q :: r, j + 1, p, h => by
    have ih := cnt_set f x (l := r) (j := j) (p := p) (by simpa using h)
    rw [List.set_cons_succ, List.countP_cons, List.countP_cons]; omega
theorem cnt_one {p : Nat} : ∀ {l : List Nat}, l.Nodup → p ∈ l → (l.countP fun x => decide (x = p)) = 1
  | q :: r, hn, h => by
    rw [List.nodup_cons] at hn
    rw [List.countP_cons]
    by_cases e : q = p
    · subst e
      rw [if_pos (by simp), List.countP_eq_zero.mpr (fun y hy => by simp only [decide_eq_true_eq]; exact fun e => hn.1 (e ▸ hy))]
    · rw [if_neg (by simpa using e), cnt_one hn.2 ((List.mem_cons.mp h).resolve_left (Ne.symm e))]
theorem idx_cnt {p : Nat} : ∀ {l : List Nat} {k : Nat}, l.Pairwise (· < ·) → l[k]? = some p → (l.countP fun x => decide (x < p)) = k
  | a :: r, 0, hs, h => by
    cases h
    rw [List.pairwise_cons] at hs
    rw [List.countP_eq_zero]
    intro y hy
    simp only [decide_eq_true_eq]
    rcases List.mem_cons.mp hy with rfl | hy
    · omega
    · have := hs.1 y hy; omega
  | a :: r, k + 1, hs, h => by
    rw [List.pairwise_cons] at hs
    have hp : r[k]? = some p := by simpa using h
    have := hs.1 p (List.mem_of_getElem? hp)
    rw [List.countP_cons, if_pos (by simpa using this), idx_cnt hs.2 hp]
theorem set_nodup {g : Nat} : ∀ {ps : List Nat} {j : Nat}, ps.Nodup → g ∉ ps → (ps.set j g).Nodup
  | [], _, _, _ => by simp
  | q :: r, 0, hn, hg => by
    rw [List.nodup_cons] at hn
    rw [List.mem_cons, not_or] at hg
    rw [List.set_cons_zero, List.nodup_cons]; exact ⟨hg.2, hn.2⟩
  | q :: r, j + 1, hn, hg => by
    rw [List.nodup_cons] at hn
    rw [List.mem_cons, not_or] at hg
    rw [List.set_cons_succ, List.nodup_cons]
    refine ⟨fun h => ?_, set_nodup hn.2 hg.2⟩
    rcases List.mem_or_eq_of_mem_set h with h | h
    · exact hn.1 h
    · exact hg.1 h.symm
/-- the sign of a move is the count of the beads passed -/
theorem sign_of {ps : List Nat} {p g j k : Nat} (hn : ps.Nodup) (hb : ∀ x ∈ ps, x < 21) (hj : ps[j]? = some p) (hg : g ∉ ps) (hg2 : g < 21) (hk : (bitsOf (mask ps))[k]? = some p) :
    (1 : Int) - (((bitsOf (mask (ps.set j g))).idxOf g : Int) - k) % 2 * 2 = ee (ps.countP (bet p g)) := by
  have hn' := set_nodup (j := j) hn hg
  have hb' : ∀ x ∈ ps.set j g, x < 21 := fun x hx => by
    rcases List.mem_or_eq_of_mem_set hx with h | rfl
    · exact hb x h
    · exact hg2
  have hjl : j < ps.length := (List.getElem?_eq_some_iff.mp hj).1
  have hm : g ∈ ps.set j g := List.mem_iff_getElem?.mpr ⟨j, by rw [List.getElem?_set_self hjl]⟩
  have e1 := idx_cnt (bitsOf_sorted _) hk
  have hgb : g ∈ bitsOf (mask (ps.set j g)) := (bits_perm hn' hb').mem_iff.mpr hm
  have e2 := idx_cnt (bitsOf_sorted _) (idx_spec _ hgb).1
  rw [(bits_perm hn hb).countP_eq] at e1
  rw [(bits_perm hn' hb').countP_eq] at e2
  have e3 := cnt_set (fun x => decide (x < g)) g hj
  rw [if_neg (show ¬ decide (g < g) = true by simp)] at e3
  have hp := List.mem_of_getElem? hj
  have hpg : p ≠ g := fun e => hg (e ▸ hp)
  rw [← e1, ← e2]
  unfold ee
  rcases Nat.lt_or_gt_of_ne hpg with h | h
  · rw [if_pos (decide_eq_true h)] at e3
    have a1 : ps.countP (fun x => decide (x < g)) = ps.countP (fun x => decide (x < p + 1)) + ps.countP (bet p g) := cnt_or (fun x hx => by
      have hne : x ≠ g := fun e => hg (e ▸ hx)
      unfold bet; simp only [decide_eq_true_eq]; omega) (fun x hx => by unfold bet; simp only [decide_eq_true_eq]; omega)
    have a2 : ps.countP (fun x => decide (x < p + 1)) = ps.countP (fun x => decide (x < p)) + ps.countP (fun x => decide (x = p)) := cnt_or (fun x hx => by
      simp only [decide_eq_true_eq]; omega) (fun x hx => by simp only [decide_eq_true_eq]; omega)
    rw [cnt_one hn hp] at a2
    omega
  · rw [if_neg (show ¬ decide (p < g) = true by simp; omega)] at e3
    have a1 : ps.countP (fun x => decide (x < p)) = ps.countP (fun x => decide (x < g)) + ps.countP (bet p g) := cnt_or (fun x hx => by
      have hne : x ≠ g := fun e => hg (e ▸ hx)
      unfold bet; simp only [decide_eq_true_eq]; omega) (fun x hx => by unfold bet; simp only [decide_eq_true_eq]; omega)
    omega
def mvT (ps : List Nat) (step : Int) (H : Nat → Int) (k : Nat) : Int :=
  if 0 ≤ (ps.getD k 0 : Int) + step ∧ ((ps.getD k 0 : Int) + step).toNat ∉ ps then ee (ps.countP (bet (ps.getD k 0) ((ps.getD k 0 : Int) + step).toNat)) * H (mask (ps.set k ((ps.getD k 0 : Int) + step).toNat)) else 0
theorem mask_to {ps : List Nat} {p g j : Nat} (hn : ps.Nodup) (hj : ps[j]? = some p) : mask ps - 2 ^ p + 2 ^ g = mask (ps.set j g) := by
  have h1 := mask_set ps j p g hj
  have h2 : (mask ps).testBit p = true := by rw [mask_bit ps hn]; exact decide_eq_true (List.mem_of_getElem? hj)
  have h3 := (sub_bit p (mask ps) h2).1
  omega
theorem moves_sum {ps : List Nat} (hn : ps.Nodup) (hb : ∀ p ∈ ps, p < 21) {step : Int} (hs : ∀ p ∈ ps, (p : Int) + step < 21) (H : Nat → Int) :
    ((movesOf (mask ps) step).map fun q => q.2 * H q.1).sum = ((List.range ps.length).map (mvT ps step H)).sum := by
  have F : ∃ F : Nat → Int, F = fun (p : Nat) => if 0 ≤ (p : Int) + step ∧ ((p : Int) + step).toNat ∉ ps then ee (ps.countP (bet p ((p : Int) + step).toNat)) * H (mask ps - 2 ^ p + 2 ^ ((p : Int) + step).toNat) else 0 := ⟨_, rfl⟩
  obtain ⟨F, hF⟩ := F
  have hP := bits_perm hn hb
  unfold movesOf
  rw [fm_sum, sum_congr (g := fun x => F x.1) fun x hx => ?_]
  · have e1 : ((bitsOf (mask ps)).zipIdx.map fun x => F x.1) = (bitsOf (mask ps)).map F := by
      refine List.ext_getElem (by simp) fun i h1 h2 => ?_
      simp
    rw [e1, sum_permI (hP.map F), sum_getD]
    refine sum_congr fun k hk => ?_
    have hk := List.mem_range.mp hk
    have hj : ps[k]? = some (ps.getD k 0) := by rw [List.getD_eq_getElem?_getD, List.getElem?_eq_getElem hk]; rfl
    rw [hF]
    unfold mvT
    dsimp only
    rw [mask_to hn hj]
  · obtain ⟨p, k⟩ := x
    have hk : (bitsOf (mask ps))[k]? = some p := by
      obtain ⟨j, hj⟩ := List.getElem?_of_mem hx
      rw [List.getElem?_zipIdx, Option.map_eq_some_iff] at hj
      obtain ⟨b, e3, e4⟩ := hj
      simp only [Prod.mk.injEq] at e4
      obtain ⟨rfl, rfl⟩ := e4
      rw [Nat.zero_add]; exact e3
    have hp : p ∈ ps := hP.mem_iff.mp (List.mem_of_getElem? hk)
    obtain ⟨j, hj⟩ := List.getElem?_of_mem hp
    have h1 := hs p hp
    rw [hF]
    unfold mvOne
    dsimp only
    by_cases h6 : (p : Int) + step < 0
    · rw [if_pos h6, if_neg (fun q => by omega)]
    · rw [if_neg h6]
      by_cases h7 : ((p : Int) + step).toNat ∈ ps
      · rw [if_pos (by rw [mask_bit ps hn]; exact decide_eq_true h7), if_neg (fun q => q.2 h7)]
      · rw [if_neg (by rw [mask_bit ps hn]; simpa using h7), if_pos ⟨by omega, h7⟩]
        dsimp only
        rw [mask_to hn hj, sign_of hn hb hj h7 (by omega) hk]
theorem dup_zero {l : List Nat} {k m x : Nat} (hne : k ≠ m) (hk : l[k]? = some x) (hm : l[m]? = some x) : VV l = 0 :=
  VV_zero fun hn => hne ((List.getElem?_inj (List.getElem?_eq_some_iff.mp hk).1 hn).mp (hk.trans hm.symm))
/-- all single moves, with their counts -/
def SS (l : List Nat) (step : Int) (M : Nat) : Int := ((List.range l.length).map fun j => if 0 ≤ (l.getD j 0 : Int) + step then val (l.set j ((l.getD j 0 : Int) + step).toNat) M else 0).sum
theorem getD_get {l : List Nat} {k : Nat} (h : k < l.length) : l[k]? = some (l.getD k 0) := by rw [List.getD_eq_getElem?_getD, List.getElem?_eq_getElem h]; rfl
theorem second {l : List Nat} (hn : l.Nodup) (hb : ∀ p ∈ l, p < 21) {step : Int} (hs : ∀ p ∈ l, (p : Int) + step < 21) (h0 : step ≠ 0) (M : Nat) : VV l * sumAt (movesOf (mask l) step) M = SS l step M := by
  have e : sumAt (movesOf (mask l) step) M = ((movesOf (mask l) step).map fun q => q.2 * (fun N => if N = M then 1 else 0) q.1).sum := by
    unfold sumAt
    refine sum_congr fun q _ => ?_
    dsimp only
    split <;> omega
  rw [e, moves_sum hn hb hs (fun N => if N = M then 1 else 0), sum_mulI]
  unfold SS
  refine sum_congr fun k hk => ?_
  have hk := List.mem_range.mp hk
  have hj := getD_get hk
  unfold mvT
  by_cases h1 : 0 ≤ (l.getD k 0 : Int) + step
  · rw [if_pos h1, val_VV]
    by_cases h2 : ((l.getD k 0 : Int) + step).toNat ∈ l
    · rw [if_neg (fun q => q.2 h2)]
      obtain ⟨m, hm⟩ := List.getElem?_of_mem h2
      have hne : k ≠ m := fun e => by
        rw [← e, hj] at hm
        have := Option.some.inj hm
        omega
      rw [dup_zero (l := l.set k _) hne (List.getElem?_set_self hk) (by rw [List.getElem?_set_ne hne]; exact hm)]
      simp
    · rw [if_pos ⟨h1, h2⟩, VV_set hn hj h2]
      split
      · grind
      · grind
  · rw [if_neg h1, if_neg (fun q => h1 q.1), Int.mul_zero]
/-- where the first step meets another bead, the second ones go out -/
theorem cancel {bs : List Nat} {k m g : Nat} (hk : k < bs.length) (hm : bs[m]? = some g) (hne : k ≠ m) {step : Int} (h0 : step ≠ 0) (M : Nat) : SS (bs.set k g) step M = 0 := by
  have hml : m < bs.length := (List.getElem?_eq_some_iff.mp hm).1
  have gk : (bs.set k g).getD k 0 = g := by rw [List.getD_eq_getElem?_getD, List.getElem?_set_self hk]; rfl
  have gm : (bs.set k g).getD m 0 = g := by rw [List.getD_eq_getElem?_getD, List.getElem?_set_ne hne, hm]; rfl
  unfold SS
  refine sum_two _ (k := k) (m := m) (by rw [List.length_set]; exact hk) (by rw [List.length_set]; exact hml) hne (fun j h1 h2 => ?_) ?_
  · split
    · rw [val_VV, dup_zero (l := (bs.set k g).set j _) (k := k) (m := m) (x := g) hne (by rw [List.getElem?_set_ne h1, List.getElem?_set_self hk]) (by rw [List.getElem?_set_ne h2, List.getElem?_set_ne hne, hm])]
      simp
    · rfl
  · rw [gk, gm]
    by_cases h1 : 0 ≤ (g : Int) + step
    · rw [if_pos h1, if_pos h1, List.set_set, val_VV, val_VV]
      have e : bs.set k ((g : Int) + step).toNat = (bs.set k ((g : Int) + step).toNat).set m g := by
        refine List.ext_getElem? fun i => ?_
        by_cases q : m = i
        · subst q; rw [List.getElem?_set_self (by rw [List.length_set]; exact hml), List.getElem?_set_ne hne, hm]
        · rw [List.getElem?_set_ne q]
      rw [e, VV_swap _ _ bs k m hne hk hml, mask_swap _ _ bs k m hne hk hml]
      split <;> omega
    · rw [if_neg h1, if_neg h1]; rfl
theorem ways_coef {bs : List Nat} (hs : bs.Pairwise (· < ·)) {a b : Int} (h0 : ∀ p ∈ bs, p < 21) (ha : ∀ p ∈ bs, (p : Int) + a < 21) (hb : ∀ p ∈ bs, (p : Int) + b < 21) (hab : ∀ p ∈ bs, (p : Int) + a + b < 21) (ha0 : a ≠ 0) (hb0 : b ≠ 0) (M : Nat) :
    coef (outWays [] b (movesOf (mask bs) a)) M = ((List.range bs.length).map fun k => if 0 ≤ (bs.getD k 0 : Int) + a then SS (bs.set k ((bs.getD k 0 : Int) + a).toNat) b M else 0).sum := by
  have hn : bs.Nodup := hs.imp fun q => Nat.ne_of_lt q
  rw [coef_out, show coef [] M = 0 from rfl, Int.zero_add, moves_sum hn h0 ha (fun N => sumAt (movesOf N b) M)]
  refine sum_congr fun k hk => ?_
  have hk := List.mem_range.mp hk
  have hj := getD_get hk
  have hp := List.mem_of_getElem? hj
  unfold mvT
  by_cases h1 : 0 ≤ (bs.getD k 0 : Int) + a
  · rw [if_pos h1]
    by_cases h2 : ((bs.getD k 0 : Int) + a).toNat ∈ bs
    · rw [if_neg (fun q => q.2 h2)]
      obtain ⟨m, hm⟩ := List.getElem?_of_mem h2
      have hne : k ≠ m := fun e => by
        rw [← e, hj] at hm
        have := Option.some.inj hm
        omega
      rw [cancel hk hm hne hb0]
    · rw [if_pos ⟨h1, h2⟩]
      have hq := VV_set hn hj h2
      rw [VV_sorted hs, Int.one_mul] at hq
      rw [← hq]
      refine second (set_nodup hn h2) (fun x hx => ?_) (fun x hx => ?_) hb0 M
      · rcases List.mem_or_eq_of_mem_set hx with h | rfl
        · exact h0 x h
        · have := ha _ hp; omega
      · rcases List.mem_or_eq_of_mem_set hx with h | rfl
        · exact hb x h
        · have := hab _ hp; omega
  · rw [if_neg h1, if_neg (fun q => h1 q.1)]
theorem getD_set_self {l : List Nat} {k x : Nat} (h : k < l.length) : (l.set k x).getD k 0 = x := by rw [List.getD_eq_getElem?_getD, List.getElem?_set_self h]; rfl
theorem getD_set_ne {l : List Nat} {k j x : Nat} (h : k ≠ j) : (l.set k x).getD j 0 = l.getD j 0 := by rw [List.getD_eq_getElem?_getD, List.getElem?_set_ne h, ← List.getD_eq_getElem?_getD]
theorem law_du {bs : List Nat} {dn u : Nat} (hs : bs.Pairwise (· < ·)) (hb : ∀ p ∈ bs, p + u < 21) (hd : 0 < dn) (hu : 0 < u) : sameN ((outWays [] u (movesOf (mask bs) (-(dn : Int)))).filter fun p => p.2 ≠ 0) ((duOf bs dn u (List.range bs.length)).filter fun p => p.2 ≠ 0) = true := by
  refine same_of_coef (keys_out _ _ _ List.nodup_nil) (keys_du _ _ _ _) fun M => ?_
  rw [ways_coef hs (fun p hp => by have := hb p hp; omega) (fun p hp => by have := hb p hp; omega) (fun p hp => by have := hb p hp; omega) (fun p hp => by have := hb p hp; omega) (by omega) (by omega), coef_du]
  refine sum_congr fun k hk => ?_
  have hk := List.mem_range.mp hk
  by_cases h1 : dn ≤ bs.getD k 0
  · rw [if_pos h1, if_pos (by omega), show ((bs.getD k 0 : Int) + -(dn : Int)).toNat = bs.getD k 0 - dn from by omega]
    unfold SS stepAt
    rw [List.length_set]
    refine sum_congr fun j hj => ?_
    rw [if_pos (by omega)]
    congr 2
  · rw [if_neg h1, if_neg (by omega)]
theorem law_ud {bs : List Nat} {dn u : Nat} (hs : bs.Pairwise (· < ·)) (hb : ∀ p ∈ bs, p + u < 21) (hd : 0 < dn) (hu : 0 < u) : sameN ((outWays [] (-(dn : Int)) (movesOf (mask bs) u)).filter fun p => p.2 ≠ 0) ((udOf bs dn u (List.range bs.length)).filter fun p => p.2 ≠ 0) = true := by
  refine same_of_coef (keys_out _ _ _ List.nodup_nil) (keys_ud _ _ _ _) fun M => ?_
  rw [ways_coef hs (fun p hp => by have := hb p hp; omega) (fun p hp => by have := hb p hp; omega) (fun p hp => by have := hb p hp; omega) (fun p hp => by have := hb p hp; omega) (by omega) (by omega), coef_ud, coef_du]
  have e1 : ((List.range bs.length).map fun i => if dn ≤ bs.getD i 0 then ((List.range bs.length).map fun j => val (stepAt bs dn u i j) M).sum else 0).sum =
      ((List.range bs.length).map fun i => ((List.range bs.length).map fun j => if dn ≤ bs.getD i 0 then val (stepAt bs dn u i j) M else 0).sum).sum := sum_congr fun i _ => by
    split
    · rfl
    · rw [sum_zero _ _ fun _ _ => rfl]
  rw [e1, sum_swap, ← sum_addI]
  refine sum_congr fun k hk => ?_
  have hk := List.mem_range.mp hk
  rw [if_pos (by omega), show ((bs.getD k 0 : Int) + (u : Int)).toNat = bs.getD k 0 + u from by omega]
  rw [← sum_one (if dn ≤ bs.getD k 0 + u ∧ bs.getD k 0 < dn then val (upAt bs dn u k) M else 0) k bs.length hk, ← sum_addI]
  unfold SS
  rw [List.length_set]
  refine sum_congr fun j hj => ?_
  have hj := List.mem_range.mp hj
  by_cases e : j = k
  · subst e
    rw [if_pos rfl, getD_set_self hk, List.set_set]
    unfold stepAt upAt
    rw [getD_set_self hk, List.set_set]
    by_cases h1 : dn ≤ bs.getD j 0
    · rw [if_pos (by omega), if_pos h1, if_neg (by omega), Int.add_zero]
      congr 2
      omega
    · rw [if_neg h1]
      by_cases h2 : dn ≤ bs.getD j 0 + u
      · rw [if_pos (by omega), if_pos ⟨h2, by omega⟩, Int.zero_add]
        congr 2
        omega
      · rw [if_neg (by omega), if_neg (by omega)]; rfl
  · rw [if_neg e, Int.add_zero, getD_set_ne (Ne.symm e)]
    unfold stepAt
    rw [getD_set_ne e]
    by_cases h1 : dn ≤ bs.getD j 0
    · rw [if_pos (by omega), if_pos h1, List.set_comm _ _ e]
      congr 3
      omega
    · rw [if_neg h1, if_neg (by omega)]
end Mine

-- TyRow
namespace Mine
open PySem PySem.W PyProof.Rows PySem.Calls PySem.Spec
def dsOf (ns : List Int) : List Int := ns.take 5 ++ [2, 3, 5, 7, 1].drop (ns.take 5).length
theorem dsOf_len (ns : List Int) : (dsOf ns).length = 5 := by
  unfold dsOf
  rw [List.length_append, List.length_drop, List.length_take, List.length_cons, List.length_cons, List.length_cons, List.length_cons, List.length_cons, List.length_nil]
  omega
structure RowOk (ds : List Int) (bs : List Nat) : Prop where
  told : toldI (rulerI ds) = bs.map fun (p : Nat) => (p : Int)
  beads : beadsI (rulerI ds) = toldI (rulerI ds)
  ruler : Ruler (rulerI ds)
  l3 : 3 ≤ (rulerI ds).length
  l9 : (rulerI ds).length ≤ 9
  up : bs.Pairwise (· < ·)
  lt : ∀ p ∈ bs, p < 16
  len : bs.length ≤ 4
  ne : bs ≠ []
theorem ruler_of {a b c : Int} (ha : 1 ≤ a) (ha2 : a ≤ 4) (hb : 1 ≤ b) (hb2 : b ≤ 4) (hc : 1 ≤ c) (hc2 : c ≤ 4) (r : List Int) (hr : r = [] ∨ r[0]? = some 127 ∨ r[0]? = some 0) : Ruler (a :: b :: c :: r) := by
  refine ⟨fun i hi => ?_, ?_⟩
  · rcases (by omega : i = 0 ∨ i = 1 ∨ i = 2) with rfl | rfl | rfl
    · exact ⟨a, rfl, by omega, by omega⟩
    · exact ⟨b, rfl, by omega, by omega⟩
    · exact ⟨c, rfl, by omega, by omega⟩
  · rcases hr with rfl | h | h
    · exact .inl rfl
    · exact .inr (.inl h)
    · exact .inr (.inr h)
theorem up3 {x y z : Nat} (h1 : x < y) (h2 : y < z) : [x, y, z].Pairwise (· < ·) := by
  simp; omega
theorem up4 {x y z w : Nat} (h1 : x < y) (h2 : y < z) (h3 : z < w) : [x, y, z, w].Pairwise (· < ·) := by
  refine List.pairwise_cons.mpr ⟨fun t ht => ?_, up3 h2 h3⟩
  simp only [List.mem_cons, List.not_mem_nil, or_false] at ht
  omega
theorem ints_any {a b c : Nat} (ha : 1 ≤ a) (hb : 1 ≤ b) (hc : 1 ≤ c) (r : List Int) : ((a : Int) :: (b : Int) :: (c : Int) :: r).any (· == 0) = r.any (· == 0) := by
  have e : ∀ x : Nat, 1 ≤ x → ((x : Int) == 0) = false := fun x h => by rw [beq_eq_false_iff_ne]; omega
  rw [List.any_cons, List.any_cons, List.any_cons, e a ha, e b hb, e c hc]; rfl
theorem row3 {a b c : Nat} (ha : 1 ≤ a) (ha2 : a ≤ 4) (hb : 1 ≤ b) (hb2 : b ≤ 4) (hc : 1 ≤ c) (hc2 : c ≤ 4) {ds r : List Int} (h0 : r[0]? ≠ some 0) (hz : r.any (· == 0) = false) (hl : r.length ≤ 2) (hr : r = [] ∨ r[0]? = some 127)
    (h : rulerI ds = (a : Int) :: (b : Int) :: (c : Int) :: r) : RowOk ds [a - 1, a + b - 1, a + b + c - 1] := by
  have e1 : toldI ((a : Int) :: (b : Int) :: (c : Int) :: r) = [(a : Int) + 0 - 1, (a : Int) + (b + 0) - 1, (a : Int) + (b + (c + 0)) - 1] := by
    unfold toldI
    rw [if_neg (show ¬ ((a : Int) :: (b : Int) :: (c : Int) :: r)[3]? = some 0 from h0)]; rfl
  have e2 : beadsI ((a : Int) :: (b : Int) :: (c : Int) :: r) = [(a : Int) + 0 - 1, (a : Int) + (b + 0) - 1, (a : Int) + (b + (c + 0)) - 1] := by
    unfold beadsI sizesOf
    rw [ints_any ha hb hc, hz]; rfl
  refine ⟨?_, ?_, ?_, ?_, ?_, ?_, ?_, Nat.le_of_ble_eq_true rfl, List.cons_ne_nil _ _⟩
  · rw [h, e1, show (a : Int) + 0 - 1 = ((a - 1 : Nat) : Int) from by omega, show (a : Int) + (b + 0) - 1 = ((a + b - 1 : Nat) : Int) from by omega, show (a : Int) + (b + (c + 0)) - 1 = ((a + b + c - 1 : Nat) : Int) from by omega]; rfl
  · rw [h, e1, e2]
  · rw [h]; exact ruler_of (by omega) (by omega) (by omega) (by omega) (by omega) (by omega) _ (hr.imp_right .inl)
  · rw [h]; exact Nat.le_add_left 3 _
  · rw [h]; show r.length + 3 ≤ 9; omega
  · exact up3 (by omega) (by omega)
  · intro t ht; simp only [List.mem_cons, List.not_mem_nil, or_false] at ht; omega
theorem row4 {a b c : Nat} (ha : 1 ≤ a) (ha2 : a ≤ 4) (hb : 1 ≤ b) (hb2 : b ≤ 4) (hc : 1 ≤ c) (hc2 : c ≤ 4) {ds : List Int}
    (h : rulerI ds = (a : Int) :: (b : Int) :: (c : Int) :: [0, 5]) : RowOk ds [a - 1, a + b - 1, a + b + c - 1, a + b + c + c - 1] := by
  have e1 : toldI ((a : Int) :: (b : Int) :: (c : Int) :: [0, 5]) = [(a : Int) + 0 - 1, (a : Int) + (b + 0) - 1, (a : Int) + (b + (c + 0)) - 1, (a : Int) + (b + (c + (c + 0))) - 1] := by
    unfold toldI
    rw [if_pos (show ((a : Int) :: (b : Int) :: (c : Int) :: [0, 5])[3]? = some 0 from rfl)]; rfl
  have e2 : beadsI ((a : Int) :: (b : Int) :: (c : Int) :: [0, 5]) = [(a : Int) + 0 - 1, (a : Int) + (b + 0) - 1, (a : Int) + (b + (c + 0)) - 1, (a : Int) + (b + (c + (c + 0))) - 1] := by
    unfold beadsI sizesOf
    rw [ints_any ha hb hc]; rfl
  refine ⟨?_, ?_, ?_, ?_, ?_, ?_, ?_, Nat.le_of_ble_eq_true rfl, List.cons_ne_nil _ _⟩
  · rw [h, e1, show (a : Int) + 0 - 1 = ((a - 1 : Nat) : Int) from by omega, show (a : Int) + (b + 0) - 1 = ((a + b - 1 : Nat) : Int) from by omega, show (a : Int) + (b + (c + 0)) - 1 = ((a + b + c - 1 : Nat) : Int) from by omega, show (a : Int) + (b + (c + (c + 0))) - 1 = ((a + b + c + c - 1 : Nat) : Int) from by omega]; rfl
  · rw [h, e1, e2]
  · rw [h]; exact ruler_of (by omega) (by omega) (by omega) (by omega) (by omega) (by omega) _ (.inr (.inr rfl))
  · rw [h]; exact Nat.le_add_left 3 _
  · rw [h]; exact Nat.le_of_ble_eq_true rfl
  · exact up4 (by omega) (by omega) (by omega)
  · intro t ht; simp only [List.mem_cons, List.not_mem_nil, or_false] at ht; omega
theorem row_of {a b c : Nat} (ha : 1 ≤ a) (ha2 : a ≤ 4) (hb : 1 ≤ b) (hb2 : b ≤ 4) (hc : 1 ≤ c) (hc2 : c ≤ 4) (j : Nat) (hj : j < 3) {ds : List Int} (h : rulerI ds = (a : Int) :: (b : Int) :: (c : Int) :: endsI j) : ∃ bs, RowOk ds bs := by
  rcases (by omega : j = 0 ∨ j = 1 ∨ j = 2) with rfl | rfl | rfl
  · exact ⟨_, row3 ha ha2 hb hb2 hc hc2 (by decide) rfl (Nat.zero_le _) (.inl rfl) h⟩
  · exact ⟨_, row3 ha ha2 hb hb2 hc hc2 (by decide) rfl (Nat.le_refl _) (.inr rfl) h⟩
  · exact ⟨_, row4 ha ha2 hb hb2 hc hc2 h⟩
theorem row_ok {ds : List Int} (h : ds.length = 5) : ∃ bs, RowOk ds bs := by
  match ds, h with
  | [x, y, z, v, t], _ =>
    obtain ⟨a, ha⟩ : ∃ a : Nat, x % 4 + 1 = a := ⟨(x % 4 + 1).toNat, by omega⟩
    obtain ⟨b, hb⟩ : ∃ b : Nat, y % 4 + 1 = b := ⟨(y % 4 + 1).toNat, by omega⟩
    obtain ⟨c, hc⟩ : ∃ c : Nat, z % 4 + 1 = c := ⟨(z % 4 + 1).toNat, by omega⟩
    obtain ⟨j, hj⟩ : ∃ j : Nat, (z / 4) % 3 = j := ⟨((z / 4) % 3).toNat, by omega⟩
    refine row_of (a := a) (b := b) (c := c) (by omega) (by omega) (by omega) (by omega) (by omega) (by omega) j (by omega) ?_
    show ([x, y, z].map fun x => x % 4 + 1) ++ endsI ((z / 4) % 3).toNat = _
    rw [hj]
    show (x % 4 + 1) :: (y % 4 + 1) :: (z % 4 + 1) :: ([] ++ endsI j) = _
    rw [ha, hb, hc]; rfl
theorem movesOf_top {N : Nat} {a b : Int} (h1 : ∀ p ∈ bitsOf N, (p : Int) + b < 21) (h2 : ∀ p ∈ bitsOf N, (p : Int) + a + b < 21) : ∀ q ∈ movesOf N a, ∀ p ∈ bitsOf q.1, (p : Int) + b < 21 := by
  intro q hq x hx
  unfold movesOf at hq
  obtain ⟨⟨p, i⟩, h3, h4⟩ := List.mem_filterMap.mp hq
  have hp : p ∈ bitsOf N := by
    obtain ⟨j, hj⟩ := List.getElem?_of_mem h3
    rw [List.getElem?_zipIdx, Option.map_eq_some_iff] at hj
    obtain ⟨b, e3, e4⟩ := hj
    cases e4
    exact List.mem_of_getElem? e3
  obtain ⟨h5, h5'⟩ := bitsOf_mem.mp hp
  unfold mvOne at h4
  simp only at h4
  by_cases h6 : (p : Int) + a < 0
  · rw [if_pos h6] at h4; cases h4
  · rw [if_neg h6] at h4
    by_cases h7 : N.testBit ((p : Int) + a).toNat = true
    · rw [if_pos h7] at h4; cases h4
    · rw [if_neg h7] at h4
      cases h4
      obtain ⟨h8, h9⟩ := bitsOf_mem.mp hx
      have h9 : (N - 2 ^ p + 2 ^ ((p : Int) + a).toNat).testBit x = true := h9
      rw [mv_bits h5' (by simpa using h7)] at h9
      by_cases e : x = ((p : Int) + a).toNat
      · have := h2 p hp; omega
      · simp [e] at h9
        exact h1 x (bitsOf_mem.mpr ⟨h8, h9.2⟩)
theorem duOf_le {bs : List Nat} {dn u : Nat} (h : bs.length ≤ 4) : (duOf bs dn u (List.range bs.length)).length ≤ 16 := by
  have z : ∀ (is : List Nat) (sm : List (Nat × Int)), (is.foldl (fun sm i => if dn ≤ bs.getD i 0 then duIn bs dn u i (List.range bs.length) sm else sm) sm).length ≤ sm.length + is.length * 4 := by
    intro is
    induction is with
    | nil => intro sm; exact Nat.le_refl _
    | cons i r ih =>
      intro sm
      rw [List.foldl_cons, List.length_cons]
      refine Nat.le_trans (ih _) ?_
      split
      · have := duIn_len bs dn u i (List.range bs.length) sm
        rw [List.length_range] at this; omega
      · omega
  have := z (List.range bs.length) []
  rw [List.length_range, List.length_nil] at this
  unfold duOf; omega
theorem udOf_le {bs : List Nat} {dn u : Nat} (h : bs.length ≤ 4) : (udOf bs dn u (List.range bs.length)).length ≤ 20 := by
  have h1 := udOf_len bs dn u (List.range bs.length) (duOf bs dn u (List.range bs.length))
  have h2 := duOf_le (dn := dn) (u := u) h
  rw [List.length_range] at h1
  unfold udOf; omega
end Mine

-- TyLaw
namespace Mine
open PySem PySem.W PyProof.Rows PySem.Calls PySem.Spec
local macro_rules | `(tactic| walk_at "lk") => `(tactic| first
  | (with_reducible exact up_hit)
  | (with_reducible exact bm_hit)
  | ((with_reducible refine up_skip (ofNe (by decide)) ?_); walk_at "lk")
  | ((with_reducible refine bm_skip (ofNe (by decide)) ?_); walk_at "lk")
  | assumption
  | (simp only [upd, bmap, ofString_inj, String.reduceEq, reduceIte]; first | done | rfl | assumption))
local macro_rules | `(tactic| walk_at "mem") => `(tactic| first | exact List.Mem.head _ | assumption | (refine List.Mem.tail _ ?_; walk_at "mem") | (refine List.mem_append_right _ ?_; walk_at "mem"))
local macro_rules | `(tactic| walk_at "go meth") => `(tactic| first
  | ((with_reducible show wpAny _ _ (getMethod (Value.ref _) (Str.ofString "append") _) _ _ _); (refine r_meth (St.get (by assumption) (by walk_at "mem")) rfl rfl PySem.F.plainAttrs_list slot_list_append ?_))
  | ((with_reducible show wpAny _ _ (getMethod (Value.ref _) (Str.ofString "index") _) _ _ _); (refine r_meth (St.get (by assumption) (by walk_at "mem")) rfl rfl PySem.F.plainAttrs_list PySem.F.slot_list_index ?_))
  | (with_reducible refine PySem.GM.join ?_)
  | (with_reducible refine PySem.GM.split ?_)
  | (with_reducible refine PySem.GM.find ?_))
-- one step of the walk by my rules
local macro_rules | `(tactic| walk_at "go name") => `(tactic| first
  | (with_reducible refine r_glob (by assumption) (by first | apply g_tab | apply g_pf | apply g_em | apply g_gi | apply g_nms | apply g_ruler | apply g_told | apply g_beads | apply g_moves | apply g_left | apply g_ways | apply g_count | apply g_du | apply g_ud | apply g_ell) ?_)
  | (with_reducible refine r_bi (by assumption) (by first | apply n_range | apply n_len | apply n_hex | apply n_sum | apply n_set | apply n_list | apply n_sorted) (by first | apply b_range | apply b_len | apply b_hex | apply b_sum | apply b_set | apply b_list | apply b_sorted) ?_)
  | (with_reducible refine r_loc (by assumption) (by walk_at "lk") ?_))
local macro_rules | `(tactic| walk_at "go") => `(tactic| first
  | (with_reducible refine wpAny_execs_cons ?_)
  | (with_reducible refine wpAny_execs_nil ?_)
  | ((with_reducible show wpAny _ _ (exec (Stmt.Assign [PySem.Expr.Name _ _] _ _) _) _ _ _); refine wpAny_Assign_Name ?_)
  | (with_reducible refine wpAny_If ?_)
  | ((with_reducible show wpAny _ _ (exec (Stmt.Expr _ _) _) _ _ _); refine wpAny_Expr ?_)
  | (with_reducible refine wpAny_AugAssign_Name ?_)
  | (with_reducible refine wpAny_Return_some ?_)
  | (with_reducible refine wpAny_Break ?_)
  | ((with_reducible show wpAny _ _ (eval (PySem.Expr.Name _ _) _) _ _ _); walk_at "go name")
  | ((with_reducible show wpAny _ _ (loadName _ _) _ _ _); (with_reducible refine r_locn (by assumption) (by walk_at "lk") ?_))
  | ((with_reducible show wpAny _ _ (storeName _ _ _) _ _ _); (with_reducible refine r_store (by assumption) ?_); intro _ _)
  | ((with_reducible refine r_int (by assumption) ?_); intro _ _ _)
  | ((with_reducible refine r_str (by assumption) ?_); intro _ _ _)
  | (with_reducible refine PyProof.Rows.Constant_bool ?_)
  | (with_reducible refine wpAny_BinOp ?_)
  | ((with_reducible show wpAny _ _ (eval (PySem.Expr.List _ _) _) _ _ _); (with_reducible refine List_ ?_))
  | ((with_reducible show wpAny _ _ (newList _) _ _ _); (refine r_list (by assumption) ?_); intro _ _ _)
  | ((with_reducible show wpAny _ _ (eval (PySem.Expr.Call (PySem.Expr.Attribute _ _ _) _ _ _) _) _ _ _); refine MethodCall_ ?_)
  | ((with_reducible show wpAny _ _ (eval (PySem.Expr.Call (PySem.Expr.Name _ _) _ _ _) _) _ _ _); refine PyProof.Rows.Call_ ?_)
  | ((with_reducible show wpAny _ _ (callWith _ (Value.builtin _) _ _ _) _ _ _); first | (with_reducible refine PyProof.Rows.callWith_method0 ?_) | refine PyProof.Rows.callWith_method1 ?_)
  | ((with_reducible show wpAny _ _ (callWith _ (Value.type _) _ _ _) _ _ _); refine PySem.Pv.callWith_type1 ?_)
  | ((with_reducible show wpAny _ _ (spliced _) _ _ _); first | (with_reducible refine PyProof.Rows.args_nil ?_) | refine PyProof.Rows.args_cons ?_)
  | ((with_reducible refine r_add (by assumption) ?_); intro _ _ _)
  | ((with_reducible refine r_sub (by assumption) ?_); intro _ _ _)
  | ((with_reducible refine r_and (by assumption) ?_); intro _ _ _)
  | ((with_reducible refine r_ixor (by assumption) ?_); intro _ _ _)
  | ((with_reducible refine r_iadd (by assumption) ?_); intro _ _ _)
  | ((with_reducible refine r_range1 (by assumption) ?_); intro _ _ _ _ _ _)
  | ((with_reducible refine r_range2 (by assumption) ?_); intro _ _ _ _ _ _)
  | (with_reducible refine PySem.P.truthy_int ?_)
  | ((with_reducible show wpAny _ _ (isTrue (PySem.Expr.UnaryOp PySem.UnaryOp.Not _ _) _ _) _ _ _); (with_reducible refine isTrue_not ?_))
  | ((with_reducible show wpAny _ _ (isTrue (PySem.Expr.BinOp _ _ _ _) _ _) _ _ _); refine isTrue_plain ?_)
  | ((with_reducible show wpAny _ _ (isTrue (PySem.Expr.Name _ _) _ _) _ _ _); refine isTrue_plain ?_)
  | ((with_reducible show wpAny _ _ (isTrue (PySem.Expr.Call _ _ _ _) _ _) _ _ _); refine isTrue_plain ?_)
  | ((with_reducible show wpAny _ _ (exec (Stmt.For _ _ _ _ _) _) _ _ _); refine wpAny_For ?_)
  | ((with_reducible show wpAny _ _ (getMethod _ _ _) _ _ _); walk_at "go meth")
  | ((with_reducible show wpAny _ _ (isTrue (PySem.Expr.Compare _ [_] [_] _) _ _) _ _ _); refine wpAny_isTrue_Compare1 ?_)
  | ((with_reducible show wpAny _ _ (eval (PySem.Expr.Compare _ [_] [_] _) _) _ _ _); refine wpAny_Compare1 ?_)
  | (with_reducible refine PySem.P.lt_int ?_)
  | (with_reducible refine PySem.P.le_int ?_)
  | (with_reducible refine PySem.P.gt_int ?_)
  | (with_reducible refine PySem.P.ge_int ?_)
  | (with_reducible refine PySem.P.eq_int ?_)
  | (with_reducible refine PySem.P.ne_int ?_)
  | (with_reducible refine PySem.P.notIn_str ?_)
  | (with_reducible refine wpAny_truthy_bool ?_)
  | (with_reducible refine wpAny_IfExp ?_)
  | (with_reducible refine wpAny_UnaryOp ?_)
  | ((with_reducible refine r_neg (by assumption) ?_); intro _ _ _)
  | (with_reducible refine Subscript_ ?_)
  | ((with_reducible show wpAny _ _ (exec (Stmt.Assert _ _ _) _) _ _ _); refine wpAny_Assert rfl ?_)
  | ((with_reducible show wpAny _ _ (eval (PySem.Expr.Tuple _ _ _) _) _ _ _); (with_reducible refine Tuple_ ?_))
  | ((with_reducible show wpAny _ _ (newTuple _) _ _ _); (refine r_tuple (by assumption) ?_); intro _ _ _)
  | ((with_reducible show wpAny _ _ (callWith _ (Value.ref _) _ _ _) _ _ _); first | (with_reducible refine cw_r0 (by assumption) (by kernel_rfl) ?_) | refine cw_r (by assumption) (by kernel_rfl) ?_)
  | ((with_reducible show _ ∧ wpAny _ _ (call _ _) _ _ _); refine ⟨⟨_, _, by assumption⟩, ?_⟩)
  | (with_reducible refine useImp (by assumption) ?_)
  | dsimp only [List.cons_append, List.nil_append])
theorem sumcast : ∀ l : List Nat, (l.map fun (p : Nat) => (p : Int)).sum = ((l.sum : Nat) : Int)
  | [] => rfl
  | x :: l => by rw [List.map_cons, List.sum_cons, List.sum_cons, sumcast l]; omega
set_option maxHeartbeats 8000000 in
theorem law_top : PySem.Challenge.rw_ty0010_01.Holds := Mine.hd (by
  k_fill
  intro w s₀ s₁ mg mb G Y fa o pm cd doc dV kV ho hda hcd hD hmg hg args vals as hpre hlay hrd hwl hlo
  refine G.open fun T _ _ _ _ => ?_
  wrow_args hpre hlay hrd hwl hlo
  refine enter_call ?_
  w_top on
  rename_i ns hs hlay0 hlb hr1 hl2 a4 a3 ls vs a0 hLs ra w1 r0 hIv hr hI _
  have hg' : s₁.gens = #[] := hg
  have K0 := below_caller (Top.heap T)
  w_call any ho hda hcd hD T F
  rename_i h₁ N0
  have F2 := F
  rw [show (fun x => List.lookup x (List.reverse [(Str.ofString "script", _)])) = bmap [(Str.ofString "script", _)] from funext fun y => lookup_rev y (by simp)] at F2
  have S0 : St ⟨w, s₁.heap, s₁.heap.objs.size, s₁.gens, s₁.os⟩ _ [] { s₁ with heap := h₁, toks := s₁.toks + [(Str.ofString "script", Value.ref ls)].length } := ⟨F2, (fun _ h => nomatch h), List.nodup_nil, ⟨kIn_of Y, mg, mb, topRead_of T⟩, rfl, rfl⟩
  refine absurdE ?_
  refine impGen fun Q0 hQ0 => ?_
  have he : ∀ (nm : Str) (sc : Scope) (L a : Addr) (cdv : Value), envOf nm sc L a cdv = envX nm sc L a cdv [] := fun _ _ _ _ _ => rfl
  rw [he]
  repeat walk_at "go"
  refine wpAny_Slice ?_
  refine evalPart_none_step ?_
  refine evalPart_some_step ?_
  repeat walk_at "go"
  refine evalPart_none_step ?_
  have hvl : vs.length = ns.length := hIv.length
  have hv63 : vs.length ≤ 63 := by omega
  refine r_slice_any (by assumption) (isLb (by assumption) hLs) .none (.int _ _) (slice_ints_uptoW hIv (by decide)) (by omega) ?_
  intro l1 v1 s2 hI1 S1
  repeat walk_at "go"
  refine wpAny_Slice ?_
  refine evalPart_some_step ?_
  repeat walk_at "go"
  refine wpAny_Slice ?_
  refine evalPart_none_step ?_
  refine evalPart_some_step ?_
  repeat walk_at "go"
  refine evalPart_none_step ?_
  refine r_slice_any (by assumption) (isLb (by assumption) hLs) .none (.int _ _) (slice_ints_uptoW hIv (by decide)) (by omega) ?_
  intro l3 v3 s3 hI3 S3
  repeat walk_at "go"
  have hv3 : v3.length = (ns.take 5).length := hI3.length
  refine r_len_list S3 (isL S3 (by walk_at "mem")) (by rw [List.size_toArray, hv3, List.length_take]; omega) ?_
  intro _ _ _
  refine evalPart_none_step ?_
  refine evalPart_none_step ?_
  refine kba_turn (value' := PySem.Expr.Name (Str.ofString "script") ⟨0, 0, 0, 0⟩) (fun _ => rfl) ?_
  refine r_slice_any (by assumption) (isL (by assumption) (by walk_at "mem")) (.int _ _) .none (slice_ints_fromW (.cons _ _ (.cons _ _ (.cons _ _ (.cons _ _ (.cons _ _ .nil))))) (by omega)) (by exact Nat.le_of_ble_eq_true rfl) ?_
  intro l4 v4 s4 hI4 S4
  have hI5 : IntsAre (v1 ++ v4) (dsOf ns) := by
    have h1 := hI1.append hI4
    rw [show ((v3.toArray.size : Int)).toNat = (ns.take 5).length from by rw [List.size_toArray, hv3]; omega] at h1
    exact h1
  have hl5 : (v1 ++ v4).length = 5 := by rw [hI5.length]; exact dsOf_len ns
  refine r_addl S4 (by walk_at "mem") (by walk_at "mem") (fun ld s5 S5 => ?_) (by rw [← List.length_append, hl5, sizeLine_eq]; omega)
  have S5 := St.keep1 (pre := [_, _, _, _]) S5
  generalize hds : dsOf ns = ds at hI5
  have hd5 : ds.length = 5 := hds ▸ dsOf_len ns
  obtain ⟨bs, R⟩ := row_ok hd5
  repeat walk_at "go"
  refine up (ruler_spec (by assumption) (by walk_at "mem") hI5 (by omega) (by omega) ?_)
  intro lr rv er s6 hrv S6
  repeat walk_at "go"
  refine up (told_spec (by assumption) (by walk_at "mem") hrv R.ruler ?_)
  intro lb bv eb s7 gn' hbv hbare S7
  dsimp only at S7
  rw [R.told] at hbv
  repeat walk_at "go"
  refine up (beads_spec (by assumption) (by walk_at "mem") hrv R.l3 R.l9 ?_)
  intro lb2 bv2 eb2 s8 hbv2 S8
  rw [R.beads, R.told] at hbv2
  refine SeqAt.compareNe_shaped (reads_of_ints (isL S8 (by walk_at "mem")) hbv) (reads_of_ints (isL S8 (by walk_at "mem")) hbv2) (shaped_ints _) (shaped_ints _) (by exact Nat.le_of_ble_eq_true rfl) ?_
  rw [show PyData.eqv (.list ((bs.map fun (p : Nat) => (p : Int)).map PyData.int)) (.list ((bs.map fun (p : Nat) => (p : Int)).map PyData.int)) = true from by simp only [PyData.eqv, ked_eqvAll, decide_true]]
  repeat walk_at "go"
  rw [if_neg (by decide)]
  have S8 := St.snd (St.tl S8)
  obtain ⟨t3, hd3⟩ := intsAre_get hI5 3 (ds.getD 3 0) (by rw [List.getD_eq_getElem?_getD, List.getElem?_eq_getElem (by omega)]; rfl)
  obtain ⟨t4, hd4⟩ := intsAre_get hI5 4 (ds.getD 4 0) (by rw [List.getD_eq_getElem?_getD, List.getElem?_eq_getElem (by omega)]; rfl)
  obtain ⟨dn, hdn⟩ : ∃ n : Nat, ds.getD 3 0 % 5 + 1 = n := ⟨(ds.getD 3 0 % 5 + 1).toNat, by omega⟩
  obtain ⟨u, hu⟩ : ∃ n : Nat, ds.getD 4 0 % 5 + 1 = n := ⟨(ds.getD 4 0 % 5 + 1).toNat, by omega⟩
  have hdn1 : 1 ≤ dn ∧ dn ≤ 5 := by omega
  have hu1 : 1 ≤ u ∧ u ≤ 5 := by omega
  repeat walk_at "go"
  refine r_item (x := .int (ds.getD 3 0) t3) (isL (by assumption) (by walk_at "mem")) (by decide) (by decide) (by simpa using hd3) ?_
  repeat walk_at "go"
  refine r_mod (ds.getD 3 0 % 5) (by assumption) (by decide) (Int.fmod_eq_emod_of_nonneg _ (by decide)) ?_
  intro _ _ _
  repeat walk_at "go"
  rename_i Sdn
  rw [hdn] at Sdn
  refine r_item (x := .int (ds.getD 4 0) t4) (isL (by assumption) (by walk_at "mem")) (by decide) (by decide) (by simpa using hd4) ?_
  repeat walk_at "go"
  refine r_mod (ds.getD 4 0 % 5) (by assumption) (by decide) (Int.fmod_eq_emod_of_nonneg _ (by decide)) ?_
  intro _ _ _
  repeat walk_at "go"
  rename_i Su
  rw [hu] at Su
  have Su := St.snd Su
  refine up (names_spec Su ?_)
  intro ln nv s9 hnv S9
  repeat walk_at "go"
  refine r_lcomp [] ?_
  repeat walk_at "go"
  have hbvl : bv.length = bs.length := by rw [hbv.length, List.length_map]
  have hbl := R.len
  refine r_iter_list (by assumption) (isL (by assumption) (by walk_at "mem")) fun I s10 S10 => ?_
  refine comp_in S10 rfl (fun Q' s k => new_list Q' s k) rfl (by decide +kernel) (by rfl) (by rfl) (by rfl) (by intro _ _ _; rfl) (by intro _ _ _; rfl) (fun C' m' led' s' Q' hm S' k => self_list hm S' k) ?_
  intro C2 D2 s11 hw2 hst2 hD2 S11
  dsimp only [compEnvC, relabel]
  refine comp_loop (p0 := ?_) (px := ?_) (ifs := ?_) (act := ?_) (itP := isLstIt lb) (n := bv.toArray.size) (val := fun i v => bv.toArray[i]? = some v) (need := fun led' => ∃ n, (lb, listOf bv.toArray n) ∈ led')
    (fun i m' led' => ∃ xs e3, led' = (D2, listOf xs.toArray e3) :: _ ∧ IntsAre xs (((bs.take i).map fun p => 2 ^ p).map fun (p : Nat) => (p : Int)))
    (nxt_list (fun m led s ⟨n, hm⟩ S => isL S hm)) (fin_list (fun m led s ⟨n, hm⟩ S => isL S hm) rfl) (by rintro i m' led' ⟨xs, e3, rfl, _⟩; exact ⟨_, by walk_at "mem"⟩) ⟨rfl, rfl⟩ S11.swap ⟨[], 0, rfl, .nil⟩ ?_ ?_ (by rfl) (by rfl) (by rfl) (by rfl)
  · rintro i v m₇ led₇ s₇ oJ hj hv ⟨xs, e3, rfl, hxs⟩ S₇
    have hi3 : i < bs.length := by simpa [hbvl] using hj
    obtain ⟨q, hq⟩ : ∃ q, bs[i]? = some q := ⟨_, List.getElem?_eq_getElem hi3⟩
    obtain ⟨tq, htq⟩ := intsAre_get hbv i (q : Int) (by rw [List.getElem?_map, hq]; rfl)
    have hv2 : v = .int (q : Int) tq := by
      have : bv[i]? = some v := by simpa using hv
      rw [htq] at this; exact (Option.some.inj this).symm
    subst hv2
    have hq16 := R.lt q (List.mem_of_getElem? hq)
    have hxl : xs.length ≤ 4 := by rw [hxs.length, List.length_map, List.length_map, List.length_take]; omega
    refine wpAny_tests_nil ?_
    rw [if_pos rfl]
    refine act_list ?_
    repeat walk_at "go"
    refine r_pow ((2 ^ q : Nat) : Int) (by assumption) (by omega) (by omega) (by decide) (by rw [Int.toNat_natCast]; simp) ?_
    intro _ _ _
    refine r_append1 (by assumption) (by simp [sizeLine_eq]; omega) ?_
    intro s8 S8
    refine ⟨_, _, S8, xs ++ [_], e3 + 1, lst_push, ?_⟩
    rw [List.take_add_one, hq, List.map_append, List.map_append]
    exact hxs.append (.cons _ _ .nil)
  · rintro m₇ led₇ s₇ ⟨xs, e3, rfl, hxs⟩ S₇
    refine ⟨rfl, _, _, S₇, fun s₉ S₉ => ?_⟩
    have hsz : bv.toArray.size = bs.length := by simp [hbvl]
    rw [hsz, List.take_of_length_le (Nat.le_refl _)] at hxs
    repeat walk_at "go"
    refine r_sum S₉ (isL S₉ (by walk_at "mem")) hxs rfl ?_
    intro _ _ Sn
    have Sn := St.tl Sn
    rw [show (((bs.map fun p => 2 ^ p).map fun (p : Nat) => (p : Int))).sum = ((mask bs : Nat) : Int) from sumcast _] 
    repeat walk_at "go"
    have hnd : bs.Nodup := R.up.imp fun q => Nat.ne_of_lt q
    have h21 : ∀ p ∈ bs, p < 21 := fun p hp => by have := R.lt p hp; omega
    have hpm : ∀ p ∈ bitsOf (mask bs), p < 16 := fun p hp => R.lt p ((bits_perm hnd h21).mem_iff.mp hp)
    have hM0 := mask_pos R.ne
    have hM1 := mask_lt hnd h21
    have hu21 : ∀ p ∈ bs, p + u < 21 := fun p hp => by have := R.lt p hp; omega
    refine up (ways_spec (C := ⟨w, s₁.heap, s₁.heap.objs.size, gn', s₁.os⟩) (by assumption) hM0 hM1 (by omega) (by omega) (by omega) (by omega) (fun p hp => by have := hpm p hp; omega) (movesOf_top (fun p hp => by have := hpm p hp; omega) (fun p hp => by have := hpm p hp; omega)) (by walk_at "mem") hnv ?_)
    intro r1 o1 s12 D1 S12
    repeat walk_at "go"
    refine up (du_spec (C := ⟨w, s₁.heap, s₁.heap.objs.size, gn', s₁.os⟩) (by assumption) (by walk_at "mem") hbv R.ne (by omega) hu21 (by walk_at "mem") hnv ?_)
    intro r2 o2 s13 D2' S13
    repeat walk_at "go"
    refine up (left_spec (C := ⟨w, s₁.heap, s₁.heap.objs.size, gn', s₁.os⟩) (by assumption) (by walk_at "mem") D2' (Nat.le_trans (duOf_le hbl) (by decide)) ?_)
    intro r3 o3 s14 D3 S14
    refine r_dne (C := ⟨w, s₁.heap, s₁.heap.objs.size, gn', s₁.os⟩) S14 (by walk_at "mem") (by walk_at "mem") D1 D3 (by exact Nat.le_of_ble_eq_true rfl) ?_
    rw [law_du R.up hu21 hdn1.1 hu1.1]
    have S14 := St.tl (St.tl (St.tl S14))
    repeat walk_at "go"
    rw [if_neg (by decide)]
    repeat walk_at "go"
    refine up (ways_spec (C := ⟨w, s₁.heap, s₁.heap.objs.size, gn', s₁.os⟩) (by assumption) hM0 hM1 (by omega) (by omega) (by omega) (by omega) (fun p hp => by have := hpm p hp; omega) (movesOf_top (fun p hp => by have := hpm p hp; omega) (fun p hp => by have := hpm p hp; omega)) (by walk_at "mem") hnv ?_)
    intro r4 o4 s15 D4 S15
    repeat walk_at "go"
    refine up (ud_spec (C := ⟨w, s₁.heap, s₁.heap.objs.size, gn', s₁.os⟩) (by assumption) (by walk_at "mem") hbv R.ne (by omega) hu21 (by walk_at "mem") hnv ?_)
    intro r5 o5 s16 D5 S16
    repeat walk_at "go"
    refine up (left_spec (C := ⟨w, s₁.heap, s₁.heap.objs.size, gn', s₁.os⟩) (by assumption) (by walk_at "mem") D5 (Nat.le_trans (udOf_le hbl) (by decide)) ?_)
    intro r6 o6 s17 D6 S17
    refine r_deq (C := ⟨w, s₁.heap, s₁.heap.objs.size, gn', s₁.os⟩) S17 (by walk_at "mem") (by walk_at "mem") D4 D6 (by exact Nat.le_of_ble_eq_true rfl) ?_
    rw [law_ud R.up hu21 hdn1.1 hu1.1]
    repeat walk_at "go"
    obtain ⟨_, _, _, B⟩ := based_of_top T rfl hmg ho hda
    refine goodWG_reads B S17.F (by rw [S17.gn]; exact hbare (by show AllBare s₁.gens; rw [hg']; exact fun y hy => by simp at hy)) (fun _ => rfl) (.bool true) unshared_nil (postW_of (by wrow_shape) (by wtm_val) (by first | rfl | (str_meet; done) | (str_meet; w_fin))) S17.os)
end Mine

theorem PySem.Challenge.cw_ty0010_01_holds : PySem.Challenge.rw_ty0010_01.Holds :=
  Mine.law_top
