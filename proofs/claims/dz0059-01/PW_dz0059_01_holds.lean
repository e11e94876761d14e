import PyProof.Rows.All
import Wide.All
import OpenK.AllK
import Wide.FinOn
import PySem.Challenge.RW_dz0059_01
open PySem PySem.W PyProof.Rows
set_option maxRecDepth 100000
set_option maxHeartbeats 8000000
set_option Elab.async false
set_option compiler.extract_closed false
namespace Mine
open_top hd for PySem.Challenge.rw_dz0059_01
end Mine
namespace Mine
open PySem PySem.W PySem.Calls PyProof.Rows
theorem fill_one (P : Params) : hd.heap_39 P = hd.heap_39 P ∧ PySem.Challenge.rw_dz0059_01 = PySem.Challenge.rw_dz0059_01 := by
  k_fill
  exact ⟨rfl, rfl⟩
theorem off_00 : True := by
  w_top off
  trivial
abbrev pr : Program := PySem.Challenge.rw_dz0059_01.row.prog

/-- room around a call -/
def AOk (d : Nat) (A : Around) : Prop := A.handled = none ∧ A.depth ≤ d ∧ A.units ≤ d
theorem AOk.elim {d : Nat} {A : Around} {P : Around → Prop} (hA : AOk d A) (h : ∀ dp fr gd un, dp ≤ d → un ≤ d → P ⟨none, dp, fr, gd, un⟩) : P A := by
  obtain ⟨hn, dp, fr, gd, un⟩ := A
  obtain ⟨h1, h2, h3⟩ := hA
  dsimp only at h1 h2 h3
  subst h1
  exact h dp fr gd un h2 h3
theorem AOk.code {d : Nat} {A : Around} {M : Model} {c : Code} {R : Result → Shared → Prop} {s : Shared} (hA : AOk d A) (h : ∀ dp fr gd un, dp ≤ d → un ≤ d → codeAny M ⟨none, dp, fr, gd, un⟩ c R s) : codeAny M A c R s :=
  AOk.elim (P := fun A => codeAny M A c R s) hA h
theorem AOk.under_make {d : Nat} {A : Around} {C : Addr} {vals : List Value} (hA : AOk d A) : AOk (d + 1) (A.under (.builtin "type.__call__" ⟨.ref C :: vals, []⟩)) :=
  ⟨hA.1, by rw [depth_under_make]; exact Nat.succ_le_succ hA.2.1, by rw [units_under_make]; exact Nat.succ_le_succ hA.2.2⟩
theorem AOk.mono {d d' : Nat} {A : Around} (hA : AOk d A) (h : d ≤ d') : AOk d' A := ⟨hA.1, Nat.le_trans hA.2.1 h, Nat.le_trans hA.2.2 h⟩
theorem leN {a b : Nat} (h : a ≤ b) : a ≤ b := h
/-- all but the addresses named stands as it stood -/
def KeptH (as : List Addr) (h h' : Heap) : Prop := ∀ b o, h.get? b = some o → b ∉ as → h'.get? b = some o

/-- what the ledger's part `foc` says of a heap, and that none of it is of the ground -/
def Has (g₀ h : Heap) (foc : List (Addr × Obj)) : Prop := ∀ q ∈ foc, h.get? q.1 = some q.2 ∧ g₀.get? q.1 = none

theorem Has.nil {g₀ h : Heap} : Has g₀ h [] := fun _ hq => nomatch hq
theorem Has.cons {g₀ h : Heap} {a : Addr} {o : Obj} {foc : List (Addr × Obj)} (h1 : h.get? a = some o) (h2 : g₀.get? a = none) (r : Has g₀ h foc) : Has g₀ h ((a, o) :: foc) := fun q hq => by
  rcases List.mem_cons.mp hq with rfl | hq
  · exact ⟨h1, h2⟩
  · exact r q hq
theorem Has.sub {g₀ h : Heap} {foc foc' : List (Addr × Obj)} (r : Has g₀ h foc) (hs : ∀ q ∈ foc', q ∈ foc) : Has g₀ h foc' := fun q hq => r q (hs q hq)
theorem Has.news {g₀ g h : Heap} {L : Addr} {news foc : List (Addr × Obj)} (N : News g L h news) (st : g₀.StaysIn g) (hs : ∀ q ∈ foc, q ∈ news) : Has g₀ h foc := fun q hq => ⟨(N q (hs q hq)).1, by
  cases e : g₀.get? q.1 with
  | none => rfl
  | some o => have := (N q (hs q hq)).2.2; rw [st _ _ e] at this; cases this⟩

theorem Has.fresh {g₀ g h : Heap} {L a : Addr} {o : Obj} {news : List (Addr × Obj)} (N : News g L h news) (st : g₀.StaysIn g) (hm : (a, o) ∈ news) : g₀.get? a = none := by
  cases e : g₀.get? a with
  | none => rfl
  | some o' => have := (N _ hm).2.2; rw [st _ _ e] at this; cases this

theorem KeptH.fr {g h h' : Heap} {L : Addr} {m : Str → Option Value} {as : List Addr} (k : KeptH as h h') (F : Fr g L h m) (hL : L ∉ as) (hg : ∀ a ∈ as, g.get? a = none) : Fr g L h' m := by
  obtain ⟨oL, es, ep, h1, r⟩ := F.ns
  exact ⟨⟨oL, es, ep, k L oL h1 hL, r⟩, fun b o e => k b o (F.keep b o e) (fun q => by rw [hg b q] at e; cases e), F.above⟩
theorem KeptH.fr0 {g h h' : Heap} {L : Addr} {m : Str → Option Value} (k : KeptH [] h h') (F : Fr g L h m) : Fr g L h' m := k.fr F (by simp) (by simp)
theorem KeptH.news0 {g h h' : Heap} {L : Addr} {news : List (Addr × Obj)} (k : KeptH [] h h') (N : News g L h news) : News g L h' news := fun q hq => ⟨k _ _ (N q hq).1 (by simp), (N q hq).2⟩
/-- the ledger behind a call that turned `as`: each row stands as it stood, or is told anew -/
theorem KeptH.news {g h h' : Heap} {L : Addr} {news news' : List (Addr × Obj)} {as : List Addr} (k : KeptH as h h') (N : News g L h news)
    (hn : ∀ q ∈ news', (q ∈ news ∧ q.1 ∉ as) ∨ (h'.get? q.1 = some q.2 ∧ ∃ o, (q.1, o) ∈ news)) : News g L h' news' := fun q hq => by
  rcases hn q hq with ⟨h1, h2⟩ | ⟨h1, o, h2⟩
  · exact ⟨k _ _ (N q h1).1 h2, (N q h1).2⟩
  · exact ⟨h1, (N _ h2).2⟩
theorem KeptH.trans {as : List Addr} {h h' h'' : Heap} (k : KeptH as h h') (k' : KeptH as h' h'') : KeptH as h h'' := fun b o e hb => k' b o (k b o e hb) hb
theorem KeptH.refl {as : List Addr} {h : Heap} : KeptH as h h := fun _ _ e _ => e
theorem KeptH.mono {as as' : List Addr} {h h' : Heap} (k : KeptH as h h') (hs : ∀ a ∈ as, a ∈ as') : KeptH as' h h' := fun b o e hb => k b o e fun q => hb (hs b q)
theorem KeptH.stays {as : List Addr} {g₀ h h' : Heap} (k : KeptH as h h') (st : g₀.StaysIn h) (hg : ∀ a ∈ as, g₀.get? a = none) : g₀.StaysIn h' := fun b o e => k b o (st b o e) fun q => by rw [hg b q] at e; cases e

/-- the end of a call whose focus was `foc`: what it left of the whole heap -/
theorem kept_end {s g h : Heap} {L : Addr} {m : Str → Option Value} {foc : List (Addr × Obj)} {as : List Addr} (hfoc : ∀ q ∈ foc, s.get? q.1 = some q.2)
    (kp : ∀ b o, s.get? b = some o → b ∉ foc.map (·.1) → g.get? b = some o) (F : Fr g L h m) (hn : ∀ q ∈ foc, q.1 ∉ as → h.get? q.1 = some q.2) : KeptH as s h := fun b o e hb => by
  by_cases hm : b ∈ foc.map (·.1)
  · obtain ⟨q, hq, rfl⟩ := List.mem_map.mp hm
    have e2 := hfoc q hq
    rw [e] at e2
    cases e2
    exact hn q hq hb
  · exact F.keep b o (kp b o e hm)

section
variable {w : World} {A : Around} {s : Shared} {g₀ : Heap} {mg mb : Str → Option Value} {p : Program} {loose : List Str} {mean : ExcName → Option Value} {foc : List (Addr × Obj)}
  {R : Result → Shared → Prop} {name qual : Str} {params : Arguments} {body : List Stmt} {scope : Scope} {cl : List (Str × Addr)} {dV kV doc pm cdv ct : Value} {an : Option Addr} {fo : Obj} {f : Addr} {args : Args} {binds : List (Str × Value)}

theorem enter (X₀ : (hd.heap_39 w.params).In g₀) (T₀ : Top p loose mean mg mb g₀) (hs : g₀.StaysIn s.heap)
    (hfoc : Has g₀ s.heap foc)
    (ho : s.heap.get? f = some fo) (hdat : fo.data = .func (fnX name qual params body scope cl dV kV doc pm an cdv ct)) (hcd : s.heap.CodeRec cdv qual) (hroom : A.depth < recursionLimit)
    (hbind : BindsTo s (fnX name qual params body scope cl dV kV doc pm an cdv ct) args binds) (hloc : ∀ y ∈ binds, scope.names.lookup y.1 = some .local)
    (h : ∀ g L' h₁, g₀.StaysIn g → (hd.heap_39 w.params).In g → Top p loose mean mg mb g → Fr g L' h₁ (fun y => binds.reverse.lookup y) → News g L' h₁ foc → (∀ q ∈ foc, q.1 < L') → s.heap.objs.size ≤ L' →
      (∀ b o, s.heap.get? b = some o → b ∉ foc.map (·.1) → g.get? b = some o) →
      wpAny (model pr w) (A.deeper (envX qual scope L' f cdv cl)) (execs body (envX qual scope L' f cdv cl))
        (fun fl s' => R (.ok (.ret (match fl with | .ret v => v | _ => .none))) s') (fun _ _ => False)
        { s with heap := h₁, toks := s.toks + binds.length })
    (hcell : ∀ x ∈ scope.names, x.2 ≠ .cell) (hco : scope.isCoroutine = false := by rfl) (hgen : scope.isGenerator = false := by rfl) (hk : scope.kind = .function := by rfl) :
    codeAny (model pr w) A (.call (.ref f) args) R s := by
  have st : g₀.StaysIn (hideAll s.heap (foc.map fun q : Addr × Obj => q.1)) := fun b o e => hideAll_get _ (hs b o e) fun q => by
    obtain ⟨r, hr, rfl⟩ := List.mem_map.mp q
    rw [(hfoc r hr).2] at e; cases e
  refine codeAny_call_def (fd := fnX name qual params body scope cl dV kV doc pm an cdv ct) (body := body) (binds := binds) hroom ho hdat (T₀.nolimit.keeps hs) hcd rfl hbind hcell hloc (fun h₁ hns hk₁ => ?_) hco hgen hk
  refine wpAny_mono (h (hideAll s.heap (foc.map fun q : Addr × Obj => q.1)) s.heap.objs.size h₁ st (X₀.keeps st) (T₀.keeps st) ⟨hns, fun b o e => hk₁ b o (of_hideAll _ e), Nat.le_of_eq (hideAll_size _ _)⟩
    (fun q hq => ⟨hk₁ _ _ (hfoc q hq).1, Nat.ne_of_lt (Heap.lt_size (hfoc q hq).1), hideAll_none _ (List.mem_map_of_mem hq)⟩) (fun q hq => Heap.lt_size (hfoc q hq).1) (Nat.le_refl _) (fun b o e hb => hideAll_get _ e hb)) (fun fl s' hl => hl) fun _ _ y => y.elim

theorem enterK {oc : Value} {od : Option Addr} {osl : Array (Option Value)} (X₀ : (hd.heap_39 w.params).In g₀) (T₀ : Top p loose mean mg mb g₀) (hs : g₀.StaysIn s.heap)
    (hfoc : Has g₀ s.heap foc)
    (ho : (hd.heap_39 w.params).lookup f = some ⟨oc, od, .func (fnX name qual params body scope cl dV kV doc pm an cdv ct), osl⟩) (hcd : codeIn (hd.heap_39 w.params) cdv qual = true) (hroom : A.depth < recursionLimit)
    (hbind : BindsTo s (fnX name qual params body scope cl dV kV doc pm an cdv ct) args binds) (hloc : ∀ y ∈ binds, scope.names.lookup y.1 = some .local)
    (h : ∀ g L' h₁, g₀.StaysIn g → (hd.heap_39 w.params).In g → Top p loose mean mg mb g → Fr g L' h₁ (fun y => binds.reverse.lookup y) → News g L' h₁ foc → (∀ q ∈ foc, q.1 < L') → s.heap.objs.size ≤ L' →
      (∀ b o, s.heap.get? b = some o → b ∉ foc.map (·.1) → g.get? b = some o) →
      wpAny (model pr w) (A.deeper (envX qual scope L' f cdv cl)) (execs body (envX qual scope L' f cdv cl))
        (fun fl s' => R (.ok (.ret (match fl with | .ret v => v | _ => .none))) s') (fun _ _ => False)
        { s with heap := h₁, toks := s.toks + binds.length })
    (hcell : ∀ x ∈ scope.names, x.2 ≠ .cell) (hco : scope.isCoroutine = false) (hgen : scope.isGenerator = false) (hk : scope.kind = .function) :
    codeAny (model pr w) A (.call (.ref f) args) R s :=
  enter X₀ T₀ hs hfoc (hs _ _ (X₀ _ _ ho)) rfl (codeRec_of (X₀.keeps hs) hcd) hroom hbind hloc h hcell hco hgen hk
end

abbrev tup (l : List Value) (n : Nat) : Obj := { cls := .type "tuple", data := .seq l.toArray n }
abbrev lst (l : List Value) (n : Nat) : Obj := { cls := .type "list", data := .seq l.toArray n }

section
variable {M : Model} {A : Around} {E : Value → Shared → Prop} {s : Shared} {g : Heap} {L : Addr} {m : Str → Option Value} {news : List (Addr × Obj)}
/-- a new list: its address lies above the frame's and above the ledger's -/
theorem newList_M {vs : List Value} {Q : Value → Shared → Prop} (F : Fr g L s.heap m) (N : News g L s.heap news)
    (h : ∀ l h', Fr g L h' m → News g L h' ((l, W.listOf vs.toArray 0) :: news) → (∀ p ∈ news, p.1 < l) → L < l → Q (.ref l) { s with heap := h' }) (hsz : vs.length ≤ sizeLine) : wpAny M A (newList vs) Q E s :=
  newList_N F N (fun h' F' N' => h _ h' F' N' (fun p hp => Heap.lt_size (N p hp).1) F.ns.lt) hsz
theorem newTuple_M {vs : List Value} {Q : Value → Shared → Prop} (F : Fr g L s.heap m) (N : News g L s.heap news)
    (h : ∀ l h', Fr g L h' m → News g L h' ((l, tup vs 0) :: news) → (∀ p ∈ news, p.1 < l) → L < l → Q (.ref l) { s with heap := h' }) (hsz : vs.length ≤ sizeLine) : wpAny M A (newTuple vs) Q E s :=
  newTuple_N F N (fun h' F' N' => h _ h' F' N' (fun p hp => Heap.lt_size (N p hp).1) F.ns.lt) hsz
end

section
variable {w : World} {A : Around} {s : Shared} {g₀ : Heap} {mg mb : Str → Option Value} {p : Program} {loose : List Str} {mean : ExcName → Option Value} {foc : List (Addr × Obj)}
  {R : Result → Shared → Prop} {name qual : Str} {params : Arguments} {body : List Stmt} {scope : Scope} {dV kV doc pm cdv ct : Value} {an : Option Addr} {f : Addr} {args : Args} {binds : List (Str × Value)}

/-- as enterK, for a def whose names are held in cells -/
theorem enterC {oc : Value} {od : Option Addr} {osl : Array (Option Value)} (X₀ : (hd.heap_39 w.params).In g₀) (T₀ : Top p loose mean mg mb g₀) (hs : g₀.StaysIn s.heap)
    (hfoc : Has g₀ s.heap foc)
    (ho : (hd.heap_39 w.params).lookup f = some ⟨oc, od, .func (fnX name qual params body scope [] dV kV doc pm an cdv ct), osl⟩) (hcd : codeIn (hd.heap_39 w.params) cdv qual = true) (hroom : A.depth < recursionLimit)
    (hbind : BindsTo s (fnX name qual params body scope [] dV kV doc pm an cdv ct) args binds)
    (hkind : (binds.all fun y => scope.names.lookup y.1 == some .local || scope.names.lookup y.1 == some .cell) = true)
    (hnd : ((cellsFrom 0 scope.names []).map (·.1)).Nodup)
    (h : ∀ g L' h₁ tk cells, g₀.StaysIn g → (hd.heap_39 w.params).In g → Top p loose mean mg mb g → Fr g L' h₁ (bindL (envOfC qual scope L' f cdv).kindOf binds fun _ => none) → News g L' h₁ (cells ++ foc) →
      CellsAre (bindC (envOfC qual scope L' f cdv).kindOf binds fun _ => none) (cellsFrom (L' + 1) scope.names []) cells → (∀ q ∈ foc, q.1 < L') → s.heap.objs.size ≤ L' →
      (∀ b o, s.heap.get? b = some o → b ∉ foc.map (·.1) → g.get? b = some o) →
      wpAny (model pr w) (A.deeper (envOfC qual scope L' f cdv)) (execs body (envOfC qual scope L' f cdv))
        (fun fl s' => R (.ok (.ret (match fl with | .ret v => v | _ => .none))) s') (fun _ _ => False)
        { s with heap := h₁, toks := tk })
    (hco : scope.isCoroutine = false) (hgen : scope.isGenerator = false) (hk : scope.kind = .function) :
    codeAny (model pr w) A (.call (.ref f) args) R s := by
  have st : g₀.StaysIn (hideAll s.heap (foc.map fun q : Addr × Obj => q.1)) := fun b o e => hideAll_get _ (hs b o e) fun q => by
    obtain ⟨r, hr, rfl⟩ := List.mem_map.mp q
    rw [(hfoc r hr).2] at e; cases e
  refine codeAny_call_function hroom (hs _ _ (X₀ _ _ ho)) rfl hco hgen rfl (codeRec_of (X₀.keeps hs) hcd) (hbind _ _ _ _ ?_)
  refine wpAny_newFunctionEnv_cells hk (kindsX hkind _) fun env' he s' x => ?_
  subst he
  refine ⟨(T₀.nolimit.keeps hs).keeps x.toInCall.keep, codeAny_func ?_⟩
  obtain ⟨h₁, tk, rfl, _⟩ := x.done
  have hk₁ := x.toInCall.keep
  obtain ⟨cells, NC, Y⟩ := Cl.news (h₀ := s.heap) (Nat.le_refl _) fun n c hm => ⟨x.cell n c (lookup_of_mem_nodup (cellsFrom_names scope.names 0 (s.heap.objs.size + 1) [] [] rfl ▸ hnd) hm), x.above n c hm⟩
  refine wpAny_mono (h (hideAll s.heap (foc.map fun q : Addr × Obj => q.1)) s.heap.objs.size h₁ tk cells st (X₀.keeps st) (T₀.keeps st) ⟨x.toInCall.ns, fun b o e => hk₁ b o (of_hideAll _ e), Nat.le_of_eq (hideAll_size _ _)⟩ (fun q hq => ?_) Y
    (fun q hq => Heap.lt_size (hfoc q hq).1) (Nat.le_refl _) (fun b o e hb => hideAll_get _ e hb)) (fun fl s' hl => hl) fun _ _ y => y.elim
  rcases List.mem_append.mp hq with hq | hq
  · refine ⟨(NC q hq).1, (NC q hq).2.1, ?_⟩
    cases e : (hideAll s.heap (foc.map fun q : Addr × Obj => q.1)).get? q.1 with
    | none => rfl
    | some o => have := of_hideAll _ e; rw [(NC q hq).2.2] at this; cases this
  · exact ⟨hk₁ _ _ (hfoc q hq).1, Nat.ne_of_lt (Heap.lt_size (hfoc q hq).1), hideAll_none _ (List.mem_map_of_mem hq)⟩
end

section
variable {prog : Program} {w : World} {A : Around} {E : Value → Shared → Prop} {s : Shared} {g : Heap} {L : Addr} {m : Str → Option Value} {news : List (Addr × Obj)}
/-- an item of a list of the ledger at a written place -/
theorem item_M {value slice : Expr} {l : Addr} {its : List Value} {n : Nat} {k : Int} {u : Tok} {v : Value} {Q : Value → Shared → Prop}
    (N : News g L s.heap news) (hm : (l, W.listOf its.toArray n) ∈ news) (h0 : 0 ≤ k) (hhi : k < 2 ^ 63) (hx : its[k.toNat]? = some v) (h : Q v s)
    (hs : subscripted slice false (.ref l) (.int k u) = operate [.ref l, .int k u] (getItem (.ref l) (.int k u)) := by with_unfolding_all rfl) :
    wpAny (model prog w) A (subscriptTail value slice (.ref l) (.int k u)) Q E s :=
  tail_any (N.isList hm).typeIs slot_list_getitem.lookup (wpAny_getItem_list (N.isList hm) h0 hhi (by simpa using hx) h) hs
end

/-- a text by its signs -/
abbrev mkS (l : List Nat) : Str := ⟨l.toArray⟩
theorem mkS_length (l : List Nat) : (mkS l).length = l.length := by simp [Str.length]
theorem slice_nat (l : List Nat) {a b : Nat} (ha : a ≤ l.length) (hab : a ≤ b) : PySem.Txt.slice (mkS l) (some (a : Int)) (some (b : Int)) = mkS ((l.drop a).take (b - a)) := by
  by_cases hb : b ≤ l.length
  · have := StrLaws.sliceText_nat (mkS l) hab (by rw [mkS_length]; exact hb)
    exact this.trans (by simp)
  · have e : Builtin.Str.strSliceIndices (some (a : Int)) (some (b : Int)) 1 (mkS l).length = Builtin.Str.strSliceIndices (some (a : Int)) (some ((l.length : Nat) : Int)) 1 (mkS l).length := by
      rw [mkS_length]
      unfold Builtin.Str.strSliceIndices
      simp only
      congr 1
      all_goals (repeat' split)
      all_goals omega
    have e2 : PySem.Txt.slice (mkS l) (some (a : Int)) (some (b : Int)) = PySem.Txt.slice (mkS l) (some (a : Int)) (some ((l.length : Nat) : Int)) := by
      unfold PySem.Txt.slice
      rw [e]
    rw [e2]
    have := StrLaws.sliceText_nat (mkS l) ha (by rw [mkS_length]; exact Nat.le_refl _)
    refine Eq.trans this ?_
    simp only [List.toList_toArray]
    rw [List.take_of_length_le (by simp), List.take_of_length_le (by simp; omega)]
local macro_rules | `(tactic| walk_at "mine depth") => `(tactic| ((try simp only [depth_under_make, depth_under_kw, depth_in1, depth_deeper, depth_caller, recursionLimit]); omega))
local macro_rules | `(tactic| walk_at "mine aok") => `(tactic| (refine ⟨rfl, ?_, ?_⟩ <;> simp only [depth_under_make, depth_under_kw, depth_in1, depth_deeper, depth_caller, units_in1, units_under_make, Around.deeper_units, Around.in1_units, Around.mark_units] <;> omega))
local macro_rules | `(tactic| k_units) => `(tactic| ((try simp only [units_in1, units_under_make, Around.deeper_units, Around.in1_units, Around.mark_units]); (try simp only [cLine]); omega))
local macro_rules | `(tactic| walk_at "mine enter") => `(tactic| ((with_reducible rename AOk _ _ => hA'); refine AOk.code hA' ?_; clear hA'; intro dp' fr' gd' un' hdp' hun'; refine' enterK ?k1 ?k2 ?k3 ?k4 ?k6 ?k7 ?k8 ?k9 ?kB ?_ ?c5 ?c2 ?c3 ?c4; (case k1 => assumption); (case k2 => assumption); (case k3 => assumption); (case k4 => assumption); (case k6 => k_is); (case k7 => k_is); (case k8 => walk_at "mine depth"); (case k9 => exact BindsTo.of_eq rfl); (case c5 => decide); (case kB => exact locs rfl); (case c2 => exact rfl); (case c3 => exact rfl); (case c4 => exact rfl); k_whole; intro g' L' h' st' X' T' F' N' l1 l2 kp'; k_lt l1; (replace l2 := leN l2); (try dsimp only); (with_reducible show wpAny _ _ _ _ _ _)))
local macro_rules | `(tactic| walk_at "newList") => `(tactic| (k_here; k_dflt (refine' newList_M ?k1 ?k2 ?_ ?z; (case k1 => k_asm); (case k2 => k_asm); (case z => size_fits); k_whole); intro l' h' F' N' l1 l2; (try k_lt l1); k_lt2 l2; (try k_sweep)))
local macro_rules | `(tactic| walk_at "newTuple") => `(tactic| (k_here; k_dflt (refine' newTuple_M ?k1 ?k2 ?_ ?z; (case k1 => k_asm); (case k2 => k_asm); (case z => size_fits); k_whole); intro l' h' F' N' l1 l2; (try k_lt l1); k_lt2 l2; (try k_sweep)))
local macro_rules | `(tactic| walk_at "compareOp In str ref") => `(tactic| (k_here; refine in_list_strs (by is_list) (by assumption) ?_))
local macro_rules | `(tactic| walk_at "subscriptTail Name Constant ref int") => `(tactic| (k_here; (with_unfolding_all refine' item_M ?k1 ?k2 ?k3 ?k4 ?k5 ?_ ?k6; (case k1 => k_asm); (case k2 => k_mem); (case k3 => decide); (case k4 => decide); (case k5 => rfl); (case k6 => with_unfolding_all rfl); k_whole)))
-- the rows of the focus that were not turned stand
local macro_rules | `(tactic| walk_at "mine still") => `(tactic| (refine List.forall_mem_cons.mpr ⟨?_, ?_⟩; (first | (intro hx; refine absurd ?_ hx; k_mem) | (intro _; refine News.get (by assumption) ?_; k_mem)); walk_at "mine still"))
local macro_rules | `(tactic| walk_at "mine still") => `(tactic| exact List.forall_mem_nil _)
local macro_rules | `(tactic| walk_at "mine enterC") => `(tactic| ((with_reducible rename AOk _ _ => hA'); refine AOk.code hA' ?_; clear hA'; intro dp' fr' gd' un' hdp' hun'; refine' enterC ?k1 ?k2 ?k3 ?k4 ?k6 ?k7 ?k8 ?k9 ?kB ?kD ?_ ?c2 ?c3 ?c4; (case k1 => assumption); (case k2 => assumption); (case k3 => assumption); (case k4 => assumption); (case k6 => k_is); (case k7 => k_is); (case k8 => walk_at "mine depth"); (case k9 => exact BindsTo.of_eq rfl); (case kB => exact rfl); (case kD => decide +kernel); (case c2 => exact rfl); (case c3 => exact rfl); (case c4 => exact rfl); k_whole; intro g' L' h' tk' cells' st' X' T' F' N' Y' l1 l2 kp'; k_lt l1; (replace l2 := leN l2); k_cells Y'; (try simp only [List.cons_append, List.nil_append] at N'); (try dsimp only); (with_reducible show wpAny _ _ _ _ _ _)))
local macro_rules | `(tactic| walk_at "mine lt") => `(tactic| first | (refine ltN ?_; omega) | (refine leN ?_; omega) | (refine neN ?_; omega))
-- each row of one list is a row of the other
local macro_rules | `(tactic| walk_at "mine mems") => `(tactic| (refine' List.forall_mem_cons.mpr ⟨?hm1, ?hm2⟩; (case hm1 => k_mem); (case hm2 => walk_at "mine mems")))
local macro_rules | `(tactic| walk_at "mine mems") => `(tactic| exact List.forall_mem_nil _)
-- an order of addresses, link by link
local macro_rules | `(tactic| walk_at "mine up") => `(tactic| first | with_reducible assumption | (refine Nat.lt_trans (by with_reducible assumption) ?_; walk_at "mine up"))
local macro_rules | `(tactic| walk_at "mine down") => `(tactic| (refine Nat.lt_trans ?_ (by with_reducible assumption); walk_at "mine up"))
local macro_rules | `(tactic| k_ne) => `(tactic| (refine neN ?_; (try dsimp only); first | (refine Nat.ne_of_lt ?_; walk_at "mine up") | (refine Nat.ne_of_gt ?_; walk_at "mine up") | (refine Nat.ne_of_lt ?_; walk_at "mine down") | (refine Nat.ne_of_gt ?_; walk_at "mine down")))
theorem off_01 : True := by
  w_top off
  trivial
theorem is_spec {w : World} {A : Around} {s : Shared} {g₀ : Heap} {mg mb : Str → Option Value} {p : Program} {loose : List Str} {mean : ExcName → Option Value} {R : Result → Shared → Prop}
    {one som : Addr} {c : Str} {b : Bool} {e : Int} {t1 t3 n1 n2 : Nat} {vs : List Value} {ys : List Str}
    (X₀ : (hd.heap_39 w.params).In g₀) (T₀ : Top p loose mean mg mb g₀) (hs : g₀.StaysIn s.heap) (hA : AOk 520 A)
    (H : Has g₀ s.heap [(one, tup [.str c t1, .bool b, .int e t3] n1), (som, lst vs n2)]) (hv : StrsAre vs ys)
    (h : ∀ h' tk, KeptH [] s.heap h' → R (.ok (.ret (.bool (b && ys.any (· == c))))) { s with heap := h', toks := tk }) :
    codeAny (model pr w) A (.call (.ref 77) ⟨[.ref one, .ref som], []⟩) R s := by
  cases b
  all_goals walk_at "mine enter"
  all_goals k_steps
  all_goals (dsimp only; exact h _ _ (kept_end (fun q hq => (H q hq).1) (by assumption) (by assumption) (fun q hq _ => (News.get (by assumption) hq))))

/-- the entries of a new lexer's dict -/
abbrev lexD (w : World) (t1 t2 t3 t4 : Nat) (n : Int) (tn : Nat) (fp : Value) (tw : Nat) (pb : Addr) : List DictEntry :=
  [⟨PyData.keyHash w.params (Str.ofString "lineno"), .str (Str.ofString "lineno") t1, .int n tn⟩,
   ⟨PyData.keyHash w.params (Str.ofString "instream"), .str (Str.ofString "instream") t2, fp⟩,
   ⟨PyData.keyHash w.params (Str.ofString "whitespace"), .str (Str.ofString "whitespace") t3, .str (Str.ofString "\n\t\x0d ") tw⟩,
   ⟨PyData.keyHash w.params (Str.ofString "pushback"), .str (Str.ofString "pushback") t4, .ref pb⟩]

theorem init_spec {w : World} {A : Around} {s : Shared} {g₀ : Heap} {mg mb : Str → Option Value} {p : Program} {loose : List Str} {mean : ExcName → Option Value} {R : Result → Shared → Prop}
    {x dx : Addr} {fp : Value}
    (X₀ : (hd.heap_39 w.params).In g₀) (T₀ : Top p loose mean mg mb g₀) (hs : g₀.StaysIn s.heap) (hA : AOk 520 A) (hlt : dx < x)
    (H : Has g₀ s.heap [(x, instObj 52 dx), (dx, dictOf [] 0)])
    (h : ∀ h' tk t1 t2 t3 t4 tn tw pb, KeptH [dx] s.heap h' → h'.get? dx = some (dictOf (lexD w t1 t2 t3 t4 1 tn fp tw pb) 4) → h'.get? pb = some (W.listOf #[] 0) → s.heap.objs.size ≤ pb → g₀.get? pb = none →
      R (.ok (.ret .none)) { s with heap := h', toks := tk }) :
    codeAny (model pr w) A (.call (.ref 28) ⟨[.ref x, fp], []⟩) R s := by
  k_lt2 hlt
  walk_at "mine enter"
  k_steps
  dsimp only
  refine h _ _ _ _ _ _ _ _ _ (kept_end (fun q hq => (H q hq).1) (by assumption) (by assumption) (by walk_at "mine still")) (News.get (by assumption) (by k_mem)) (News.get (by assumption) (by k_mem)) (by omega) (Has.fresh (by assumption) (by assumption) (by k_mem))

theorem mk_M {w : World} {A : Around} {s : Shared} {E : Value → Shared → Prop} {g : Heap} {L : Addr} {m mg mb : Str → Option Value} {p : Program} {loose : List Str} {mean : ExcName → Option Value} {news : List (Addr × Obj)} {Q : Value → Shared → Prop} {fp : Value}
    (F : Fr g L s.heap m) (N : News g L s.heap news) (X : (hd.heap_39 w.params).In g) (T : Top p loose mean mg mb g) (hA : AOk 500 A)
    (h : ∀ x dx pb h' tk t1 t2 t3 t4 tn tw, Fr g L h' m → News g L h' ((x, instObj 52 dx) :: (dx, dictOf (lexD w t1 t2 t3 t4 1 tn fp tw pb) 4) :: (pb, W.listOf #[] 0) :: news) → (∀ q ∈ news, q.1 < dx) → dx < x → x < pb →
      Q (.ref x) { s with heap := h', toks := tk }) :
    wpAny (model pr w) A (call (.ref 52) [fp] []) Q E s := by
  refine call_cls (K := hd.heap_39 w.params) (fI := 28) F X N (by k_is) (by k_is) (by k_is) ?_
  intro x dx h₁ F₁ N₁ l1 l2
  refine init_spec X T F₁.keep (hA.under_make.mono (by omega)) l2 (Has.news N₁ (fun _ _ e => e) (fun q hq => ?_)) ?_
  · rcases List.mem_cons.mp hq with rfl | hq
    · exact .head _
    · rcases List.mem_cons.mp hq with rfl | hq
      · exact .tail _ (.head _)
      · cases hq
  intro h' tk t1 t2 t3 t4 tn tw pb k hdx hpb l3 hgp
  have hdxg : g.get? dx = none := (N₁ (dx, _) (.tail _ (.head _))).2.2
  have hdxL : dx ≠ L := (N₁ (dx, _) (.tail _ (.head _))).2.1
  have lx : x < pb := Nat.lt_of_lt_of_le (Heap.lt_size (N₁ (x, _) (.head _)).1) l3
  have F' : Fr g L h' m := k.fr F₁ (by simp [Ne.symm hdxL]) (by simp [hdxg])
  refine ⟨rfl, h x dx pb h' tk t1 t2 t3 t4 tn tw F' (fun q hq => ?_) l1 l2 lx⟩
  rcases List.mem_cons.mp hq with rfl | hq
  · exact ⟨k _ _ (N₁ (x, _) (.head _)).1 (by simp only [List.mem_singleton]; exact Nat.ne_of_gt l2), (N₁ (x, _) (.head _)).2⟩
  · rcases List.mem_cons.mp hq with rfl | hq
    · exact ⟨hdx, (N₁ (dx, _) (.tail _ (.head _))).2⟩
    · rcases List.mem_cons.mp hq with rfl | hq
      · refine ⟨hpb, fun e => ?_, hgp⟩
        have hl := F₁.ns.lt
        have e' : pb = L := e
        rw [e'] at l3
        exact absurd hl (Nat.not_lt.mpr l3)
      · exact ⟨k _ _ (N₁ q (.tail _ (.tail _ hq))).1 (by simp only [List.mem_singleton]; exact Nat.ne_of_lt (l1 q hq)), (N₁ q (.tail _ (.tail _ hq))).2⟩
local macro_rules | `(tactic| walk_at "call ref") => `(tactic| (k_here; (with_reducible show wpAny _ _ (call (Value.ref 52) [_] []) _ _ _); k_dflt (refine' mk_M ?k1 ?k2 ?k3 ?k4 ?k5 ?_; (case k1 => k_asm); (case k2 => k_asm); (case k3 => k_asm); (case k4 => k_asm); (case k5 => walk_at "mine aok"); k_whole); intro x' d' b' h' tk' t1' t2' t3' t4' tn' tw' F' N' l1 l2 l3; (try k_lt l1); (try k_lt2 l2); (try k_lt2 l3); (try k_sweep)))
local macro_rules | `(tactic| walk_at "callWith ref") => `(tactic| (k_here; k_dflt (refine' callWith_F ?k1 ?_; (case k1 => exact FnAt.of (by k_asm) (by k_mem)); k_whole)))
local macro_rules | `(tactic| walk_at "And") => `(tactic| (k_here; (with_reducible show FnAt _ _ ∧ _); refine ⟨FnAt.of (by k_asm) (by k_mem), ?_⟩; try dsimp only [List.nil_append, List.cons_append]))
theorem off_02 : True := by
  w_top off
  trivial
abbrev fnObj (fd : FuncData) : Obj := { cls := .type "function", data := .func fd }
/-- what a reader `f` over the place `P` does: one sign, and the place goes on -/
def Reader (w : World) (g₀ : Heap) (cs : List Nat) (f P : Addr) (rs : List (Addr × Obj)) : Prop :=
  ∀ (A : Around) (s : Shared) (R : Result → Shared → Prop) (p tp n t1 : Nat), AOk 490 A → g₀.StaysIn s.heap → Has g₀ s.heap ((P, W.listOf #[.int (p : Int) tp] n) :: rs) → p ≤ cs.length →
    (∀ h' tk t' tr n', KeptH [P] s.heap h' → h'.get? P = some (W.listOf #[.int ((min cs.length (p + 1) : Nat) : Int) t'] n') → R (.ok (.ret (.str (mkS ((cs.drop p).take 1)) tr))) { s with heap := h', toks := tk }) →
    codeAny (model pr w) A (.call (.ref f) ⟨[.int 1 t1], []⟩) R s

/-- the entries of the source's dict -/
abbrev srcD (w : World) (t1 t2 t3 t4 t5 : Nat) (n : Int) (tn : Nat) (fp : Value) (tw : Nat) (pb f : Addr) : List DictEntry :=
  [⟨PyData.keyHash w.params (Str.ofString "lineno"), .str (Str.ofString "lineno") t1, .int n tn⟩,
   ⟨PyData.keyHash w.params (Str.ofString "instream"), .str (Str.ofString "instream") t2, fp⟩,
   ⟨PyData.keyHash w.params (Str.ofString "whitespace"), .str (Str.ofString "whitespace") t3, .str (Str.ofString "\n\t\x0d ") tw⟩,
   ⟨PyData.keyHash w.params (Str.ofString "pushback"), .str (Str.ofString "pushback") t4, .ref pb⟩,
   ⟨PyData.keyHash w.params (Str.ofString "read"), .str (Str.ofString "read") t5, .ref f⟩]

theorem min_place (a b : Nat) : (if (a : Int) + 1 < (b : Int) then (a : Int) + 1 else (b : Int)) = ((min b (a + 1) : Nat) : Int) := by split <;> omega

theorem file_spec {w : World} {A : Around} {s : Shared} {g₀ : Heap} {mg mb : Str → Option Value} {p : Program} {loose : List Str} {mean : ExcName → Option Value} {R : Result → Shared → Prop}
    {cs : List Nat} {tt : Nat} (htx : cs.length ≤ 100)
    (X₀ : (hd.heap_39 w.params).In g₀) (T₀ : Top p loose mean mg mb g₀) (hs : g₀.StaysIn s.heap) (hA : AOk 480 A) (hC : CodeHd g₀ 62 58)
    (H : Has g₀ s.heap [(58, tabObj #[])])
    (h : ∀ h' tk l x d b f c P cP cT (fd : FuncData) (oc oP oT : Obj) t0 t1 t2 t3 t4 t5 tn tw ps, KeptH [58] s.heap h' →
      Has g₀ h' [(l, tup [.ref x, .ref P] 0), (x, instObj 52 d), (d, dictOf (srcD w t1 t2 t3 t4 t5 1 tn .none tw b f) 5), (f, fnObj fd), (c, oc), (P, W.listOf #[.int 0 t0] 0), (cP, oP), (cT, oT), (58, tabObj ps)] →
      Reader w g₀ cs f P [(f, fnObj fd), (c, oc), (cP, oP), (cT, oT)] → s.heap.objs.size ≤ cT → cT < cP → cP < P → P < c → c < f → f < d → d < x → x < l →
      R (.ok (.ret (.ref l))) { s with heap := h', toks := tk }) :
    codeAny (model pr w) A (.call (.ref 63) ⟨[.str (mkS cs) tt], []⟩) R s := by
  have htx' : (mkS cs).length ≤ 100 := by rw [mkS_length]; exact htx
  walk_at "mine enterC"
  have codeHd := CodeHd.keeps hC (by assumption)
  k_steps
  have rd : ∀ {f c P cP cT x d b l : Addr} {of oc oP oT o2 o3 o4 o5 o6 : Obj} {g h : Heap} {L : Addr}, News g L h [(l, o2), (x, o3), (d, o4), (b, o5), (f, of), (c, oc), (P, o6), (cP, oP), (cT, oT), (58, tabObj (#[] ++ #[rawInt ↑49, rawInt ↑4, Value.ref c]))] →
      Reader w g₀ cs f P [(f, of), (c, oc), (cP, oP), (cT, oT)] → Reader w g₀ cs f P [(f, of), (c, oc), (cP, oP), (cT, oT)] := fun _ r => r
  have rd2 := rd (by assumption) (by
    intro A₂ s₂ R₂ p₂ tp₂ n₂ t1₂ hA₂ hs₂ H₂ hp₂ h₂
    refine AOk.code hA₂ ?_
    intro dp₂ fr₂ gd₂ un₂ hdp₂ hun₂
    refine' enter X₀ T₀ hs₂ H₂ ?k5 ?k6 ?k7 ?k8 ?k9 ?kB ?_ ?c5 ?c2 ?c3 ?c4
    case k5 => exact (H₂ _ (.tail _ (.head _))).1
    case k6 => exact rfl
    case k7 => exact ⟨_, _, _, _, rfl, (H₂ _ (.tail _ (.tail _ (.head _)))).1, by assumption, by assumption⟩
    case k8 => walk_at "mine depth"
    case k9 => exact BindsTo.of_eq rfl
    case c5 => decide
    case kB => exact locs rfl
    case c2 => exact rfl
    case c3 => exact rfl
    case c4 => exact rfl
    intro g' L' h' st' X' T' F' N' l1 l2 kp'; k_lt l1; (replace l2 := leN l2); (try dsimp only); (with_reducible show wpAny _ _ _ _ _ _)
    k_steps
    (rename News _ _ _ _ => N₂); (rename Fr _ _ _ _ => F₂)
    dsimp only
    rw [mkS_length, min_place] at N₂ ⊢
    rw [slice_nat cs hp₂ (by omega)]
    have e2 : (cs.drop p₂).take (min cs.length (p₂ + 1) - p₂) = (cs.drop p₂).take 1 := by
      by_cases q : p₂ < cs.length
      · rw [show min cs.length (p₂ + 1) - p₂ = 1 by omega]
      · rw [List.drop_eq_nil_of_le (by omega)]; simp
    rw [e2]
    exact h₂ _ _ _ _ _ (kept_end (fun q hq => (H₂ q hq).1) kp' F₂ (by walk_at "mine still")) (News.get N₂ (by k_mem)))
  clear rd
  (rename News _ _ _ _ => N₁); (rename Fr _ _ _ _ => F₁)
  refine' h _ _ _ _ _ _ _ _ _ _ _ _ _ _ _ _ _ _ _ _ _ _ _ _ (kept_end (fun q hq => (H q hq).1) (by assumption) F₁ (by walk_at "mine still")) (Has.news N₁ (by assumption) ?hm) rd2 ?o1 ?o2 ?o3 ?o4 ?o5 ?o6 ?o7 ?o8
  case hm => walk_at "mine mems"
  all_goals walk_at "mine lt"
theorem off_03 : True := by
  w_top off
  trivial
theorem KeptH.newsF {g h h' : Heap} {L d : Addr} {o o' : Obj} {news : List (Addr × Obj)} {gf : Obj → List (Addr × Obj)} (k : KeptH [d] h h') (U : UpdF d o news gf) (N : News g L h news) (e : h'.get? d = some o') : News g L h' (gf o') := by
  obtain ⟨own, rest, rfl, hg, h1, h2⟩ := U.split
  rw [hg o']
  have hmem := N (d, o) (List.mem_append_right _ (.head _))
  intro q hq
  rcases List.mem_append.mp hq with hq | hq
  · have := N q (List.mem_append_left _ hq)
    exact ⟨k _ _ this.1 (by simp only [List.mem_singleton]; exact h1 q hq), this.2⟩
  · rcases List.mem_cons.mp hq with rfl | hq
    · exact ⟨e, hmem.2⟩
    · have := N q (List.mem_append_right _ (.tail _ hq))
      exact ⟨k _ _ this.1 (by simp only [List.mem_singleton]; exact h2 q hq), this.2⟩
theorem KeptH.frF {g h h' : Heap} {L d : Addr} {o : Obj} {m : Str → Option Value} {news : List (Addr × Obj)} {gf : Obj → List (Addr × Obj)} (k : KeptH [d] h h') (U : UpdF d o news gf) (N : News g L h news) (F : Fr g L h m) : Fr g L h' m := by
  obtain ⟨own, rest, rfl, hg, h1, h2⟩ := U.split
  have hmem := N (d, o) (List.mem_append_right _ (.head _))
  exact k.fr F (by simp only [List.mem_singleton]; exact Ne.symm hmem.2.1) (by simp only [List.mem_singleton]; intro a ha; subst ha; exact hmem.2.2)

theorem read_M {w : World} {A : Around} {s : Shared} {E : Value → Shared → Prop} {g₀ g : Heap} {L f P : Addr} {m : Str → Option Value} {news rs : List (Addr × Obj)} {gf : Obj → List (Addr × Obj)} {cs : List Nat} {p tp n t1 : Nat} {Q : Value → Shared → Prop}
    (F : Fr g L s.heap m) (N : News g L s.heap news) (st : g₀.StaysIn g) (rd : Reader w g₀ cs f P rs) (U : UpdF P (W.listOf #[.int (p : Int) tp] n) news gf) (hr : ∀ q ∈ rs, q ∈ news) (hp : p ≤ cs.length) (hA : AOk 490 A)
    (h : ∀ h' tk t' tr n', Fr g L h' m → News g L h' (gf (W.listOf #[.int ((min cs.length (p + 1) : Nat) : Int) t'] n')) → Q (.str (mkS ((cs.drop p).take 1)) tr) { s with heap := h', toks := tk }) :
    wpAny (model pr w) A (call (.ref f) [.int 1 t1]) Q E s := by
  have hP : (P, W.listOf #[.int (p : Int) tp] n) ∈ news := by
    obtain ⟨own, rest, rfl, _⟩ := U.split
    exact List.mem_append_right _ (.head _)
  refine wpAny_call (rd A s _ p tp n t1 hA (fun b o e => F.keep b o (st b o e)) (Has.news N st ?_) hp ?_)
  · intro q hq
    rcases List.mem_cons.mp hq with rfl | hq
    · exact hP
    · exact hr q hq
  · intro h' tk t' tr n' k e
    exact h h' tk t' tr n' (k.frF U N F) (k.newsF U N e)

local macro_rules | `(tactic| walk_at "call ref") => `(tactic| (k_here; (with_reducible show wpAny _ _ (call (Value.ref _) [Value.int 1 _] _) _ _ _); (with_reducible rename Reader _ _ _ _ _ _ => rd'); k_dflt (refine' read_M ?k1 ?k2 ?k3 rd' ?k4 ?k5 ?k6 ?k7 ?_; (case k1 => k_asm); (case k2 => k_asm); (case k3 => assumption); (case k4 => k_updF); (case k5 => walk_at "mine mems"); (case k6 => assumption); (case k7 => walk_at "mine aok"); k_whole); intro h' tk' t' tr' n' F' N'; (try dsimp only at N'); (try k_sweep)))
theorem off_04 : True := by
  w_top off
  trivial
/-- where the lexer's parts lie -/
structure Cfg where
  lx : Addr
  dl : Addr
  src : Addr
  ds : Addr
  P : Addr
  f : Addr
  c : Addr
  cP : Addr
  cT : Addr
  pb : Addr
  sb : Addr
  u1 : Nat
  u2 : Nat
  u3 : Nat
  u4 : Nat
  u5 : Nat
  un : Nat
  uw : Nat
  fd : FuncData
  oc : Obj
  oP : Obj
  oT : Obj

abbrev Cfg.rs (C : Cfg) : List (Addr × Obj) := [(C.f, fnObj C.fd), (C.c, C.oc), (C.cP, C.oP), (C.cT, C.oT)]
def Cfg.Ord (C : Cfg) : Prop := C.cT < C.cP ∧ C.cP < C.P ∧ C.P < C.c ∧ C.c < C.f ∧ C.f < C.ds ∧ C.ds < C.src ∧ C.src < C.dl ∧ C.dl < C.lx ∧ C.lx < C.pb
abbrev lexRows (w : World) (C : Cfg) (t1 t2 t3 t4 tn tw tp np : Nat) (n : Int) (p : Nat) : List (Addr × Obj) :=
  [(C.lx, instObj 52 C.dl), (C.dl, dictOf (lexD w t1 t2 t3 t4 n tn (.ref C.src) tw C.pb) 4), (C.src, instObj 52 C.ds), (C.ds, dictOf (srcD w C.u1 C.u2 C.u3 C.u4 C.u5 1 C.un .none C.uw C.sb C.f) 5),
   (C.P, W.listOf #[.int (p : Int) tp] np), (C.f, fnObj C.fd), (C.c, C.oc), (C.cP, C.oP), (C.cT, C.oT)]
/-- the lexer stands at row n, its file at place p -/
def Lex (w : World) (g₀ h : Heap) (C : Cfg) (n : Int) (p : Nat) : Prop :=
  ∃ t1 t2 t3 t4 tn tw tp np, Has g₀ h (lexRows w C t1 t2 t3 t4 tn tw tp np n p)

theorem nl_eq : Str.ofString "\n" = mkS [10] := by decide +kernel
theorem mkS_inj {a b : List Nat} (h : mkS a = mkS b) : a = b := by
  have := congrArg (fun s => s.cps.toList) h
  simpa using this
theorem mkS_beq {a b : List Nat} : (mkS a == mkS b) = (a == b) := by
  by_cases h : a = b
  · subst h; simp
  · rw [beq_eq_false_iff_ne.mpr h, beq_eq_false_iff_ne.mpr fun e => h (mkS_inj e)]
theorem nl_true {l : List Nat} (h : (mkS l == Str.ofString "\n") = true) : l = [10] := by
  rw [nl_eq, mkS_beq] at h
  exact beq_iff_eq.mp h
theorem nl_false {l : List Nat} (hl : l.length ≤ 1) (h : (mkS l == Str.ofString "\n") = false) : l.count 10 = 0 := by
  rw [nl_eq, mkS_beq] at h
  match l, hl with
  | [], _ => rfl
  | [c], _ =>
    have hc : c ≠ 10 := fun e => by subst e; simp at h
    rw [List.count_cons]
    simp [hc]

theorem char_spec {w : World} {A : Around} {s : Shared} {g₀ : Heap} {mg mb : Str → Option Value} {p : Program} {loose : List Str} {mean : ExcName → Option Value} {R : Result → Shared → Prop}
    {cs : List Nat} {C : Cfg} {n : Int} {i : Nat}
    (X₀ : (hd.heap_39 w.params).In g₀) (T₀ : Top p loose mean mg mb g₀) (hs : g₀.StaysIn s.heap) (hA : AOk 470 A) (O : C.Ord) (rd : Reader w g₀ cs C.f C.P C.rs) (hx : Lex w g₀ s.heap C n i) (hi : i ≤ cs.length)
    (h : ∀ h' tk tr, KeptH [C.dl, C.P] s.heap h' → Lex w g₀ h' C (n + ((cs.drop i).take 1).count 10) (min cs.length (i + 1)) → R (.ok (.ret (.str (mkS ((cs.drop i).take 1)) tr))) { s with heap := h', toks := tk }) :
    codeAny (model pr w) A (.call (.ref 35) ⟨[.ref C.lx], []⟩) R s := by
  obtain ⟨t1, t2, t3, t4, tn, tw, tp, np, H⟩ := hx
  obtain ⟨lx, dl, src, ds, P, f, c, cP, cT, pb, sb, u1, u2, u3, u4, u5, un, uw, fd, oc, oP, oT⟩ := C
  obtain ⟨o1, o2, o3, o4, o5, o6, o7, o8, o9⟩ := O
  dsimp only at o1 o2 o3 o4 o5 o6 o7 o8 o9 H rd h ⊢
  replace o1 := ltN o1; replace o2 := ltN o2; replace o3 := ltN o3; replace o4 := ltN o4; replace o5 := ltN o5; replace o6 := ltN o6; replace o7 := ltN o7; replace o8 := ltN o8; replace o9 := ltN o9
  dsimp only [lexRows, Cfg.rs] at H rd h
  walk_at "mine enter"
  k_steps
  all_goals ((rename News _ _ _ _ => N₁); (rename Fr _ _ _ _ => F₁); dsimp only)
  · (rename _ = true => hc)
    have e2 : n + (((cs.drop i).take 1).count 10 : Nat) = n + 1 := by rw [nl_true hc]; rfl
    rw [e2] at h
    refine' h _ _ _ (kept_end (fun q hq => (H q hq).1) (by assumption) F₁ (by walk_at "mine still")) ⟨_, _, _, _, _, _, _, _, Has.news N₁ (by assumption) ?hm⟩
    case hm => walk_at "mine mems"
  · (rename _ = false => hc)
    have e2 : n + (((cs.drop i).take 1).count 10 : Nat) = n := by rw [nl_false (by simp; omega) hc]; exact Int.add_zero n
    rw [e2] at h
    refine' h _ _ _ (kept_end (fun q hq => (H q hq).1) (by assumption) F₁ (by walk_at "mine still")) ⟨_, _, _, _, _, _, _, _, Has.news N₁ (by assumption) ?hm⟩
    case hm => walk_at "mine mems"
theorem off_05 : True := by
  w_top off
  trivial
theorem slot_ci_next : Slot "callable_iterator" "__next__" "callable_iterator.__next__" :=
  .of (owner := "callable_iterator") (n := "__next__") (by rw [typeLookup_type, builtinLookup_eq_fast]; kernel_rfl) (by decide +kernel) (by decide +kernel) (by decide +kernel)
    (by first | exact .inl (by decide +kernel) | exact .inr (by decide +kernel)) (by rw [isSubtype_type]; kernel_rfl)
theorem slot_ci_iter : Slot "callable_iterator" "__iter__" "callable_iterator.__iter__" :=
  .of (owner := "callable_iterator") (n := "__iter__") (by rw [typeLookup_type, builtinLookup_eq_fast]; kernel_rfl) (by decide +kernel) (by decide +kernel) (by decide +kernel)
    (by first | exact .inl (by decide +kernel) | exact .inr (by decide +kernel)) (by rw [isSubtype_type]; kernel_rfl)
theorem entry_ci_next : entryFor table "callable_iterator.__next__" = some Builtin.«callable_iterator.__next__» := entryFor_of_tree (by kernel_rfl)
theorem entry_ci_iter : entryFor table "callable_iterator.__iter__" = some Builtin.«dict_keyiterator.__iter__» :=
  entryFor_alias (id' := "dict_keyiterator.__iter__") (by kernel_rfl) rfl (by decide +kernel) (by kernel_rfl)
theorem args_ci_next (a : Value) : argsOk "callable_iterator.__next__" ⟨[a], []⟩ := by unfold argsOk; kernel_rfl
theorem args_ci_iter (a : Value) : argsOk "callable_iterator.__iter__" ⟨[a], []⟩ := by unfold argsOk; kernel_rfl

theorem wpAny_callBorrowed {M : Model} {A : Around} {E : Value → Shared → Prop} {s : Shared} {f : Value} {pos : List Value} {Q : Value → Shared → Prop}
    (hc : codeAny M A (.call f ⟨pos, []⟩) (fun r s' => match r with | .ok (.ret v) => Q v s' | .ok _ => False | .error e => E e s') s) : wpAny M A (callBorrowed f pos) Q E s := fun Γ p hΓ => by
  unfold callBorrowed
  rw [Sem.wp_call]
  refine wpCode_mono (fun r s' h => ?_) (hc _ p rfl (hΓ.enter _ none p (by intro x; cases x)))
  cases r with
  | error e => exact h
  | ok f => cases f <;> first | exact h | exact h.elim

/-- iter(f, ''): live, and ended -/
abbrev ciObj (q : Addr) (t : Tok) : Obj := { cls := .type "callable_iterator", data := .fields #[.ref q, .str (Str.ofString "") t, .bool false] }
abbrev ciEnd : Obj := { cls := .type "callable_iterator", data := .fields #[.none, .none, .bool true] }

section
variable {prog : Program} {w : World} {A : Around} {E : Value → Shared → Prop} {s : Shared} {I q : Addr} {t : Tok}

theorem ci_iter {o : Obj} {Q : Value → Shared → Prop} (hI : s.heap.get? I = some o) (hc : o.cls = .type "callable_iterator") (h : Q (.ref I) s) : wpAny (model prog w) A (pyIter (.ref I)) Q E s := by
  have hT : s.TypeIs (.ref I) "callable_iterator" := ⟨_, hI, hc⟩
  refine wpAny_pyIter_slot hT slot_ci_iter (wpAny_call_entry slot_ci_iter hT entry_ci_iter ?_ (args_ci_iter _))
  exact wpAny_pure ⟨_, rfl, "callable_iterator", _, hT, slot_ci_next.lookup, h⟩

/-- StopIteration, raised by the iterator's own slot -/
theorem ci_stop {α : Type} {A₁ : Around} {Q : Option Value → Shared → Prop} {Q₁ : α → Shared → Prop} (hh : A₁.handled = none) (h : ∀ h', (∀ b o, s.heap.get? b = some o → h'.get? b = some o) → Q none { s with heap := h' }) :
    wpAny (model prog w) A₁ (Builtin.SmallTypes.stopIteration : Sem α) Q₁
      (fun e s' => wpAny (model prog w) A (do if ← isInstance e (.type "StopIteration") then pure none else throw e : Sem (Option Value)) Q E s') s := by
  show wpAny _ _ (newExc (.type "StopIteration") [] >>= _) _ _ _
  refine wpAny_bind ?_
  simp only [newExc, newTuple]
  refine wpAny_bind (wpAny_newObj_type ?_ (by size_fits))
  refine wpAny_bind (m := firstArgMember _ _) (wpAny_of_eq (a := Value.none) (by first | rfl | (simp only [firstArgMember]; rfl)) ?_)
  refine wpAny_newObj_type ?_ (by size_fits)
  simp only [raiseNew]
  refine wpAny_bind (wpAny_handled ?_)
  rw [hh]
  refine wpAny_bind (wpAny_pure (wpAny_throw ?_))
  refine wpAny_bind (wpAny_isInstance (T := "StopIteration") (b := true) ⟨_, Heap.get?_push_size _ rfl, rfl⟩ isSubtype_stop ?_)
  exact wpAny_pure (h _ fun b o e => Heap.get?_push_of_some _ (Heap.get?_push_of_some _ e))

theorem ci_next_end {Q : Option Value → Shared → Prop} (hh : A.handled = none) (hI : s.heap.get? I = some ciEnd) (h : ∀ h', (∀ b o, s.heap.get? b = some o → h'.get? b = some o) → Q none { s with heap := h' }) :
    wpAny (model prog w) A (pyNext (.ref I)) Q E s := by
  have hT : s.TypeIs (.ref I) "callable_iterator" := ⟨_, hI, rfl⟩
  unfold pyNext
  refine wpAny_bind (wpAny_attempt (wpAny_callSpecial?_slot (name := Str.ofString "__next__") hT slot_ci_next
    (wpAny_call_entry slot_ci_next hT entry_ci_next ?_ (args_ci_next _))))
  show wpAny _ _ (field (.ref I) 2 >>= _) _ _ s
  refine wpAny_bind (wpAny_field hI rfl (x := .bool true) rfl ?_)
  show wpAny _ _ (rule "callable_iterator.__next__.ended" >>= _) _ _ s
  refine wpAny_bind (wpAny_rule ?_)
  refine wpAny_bind ?_
  exact ci_stop (A₁ := A.in1) hh h

theorem ci_borrows {fn : Addr} {self : Value} {Q : Bool → Shared → Prop} (hq : s.heap.get? q = some (methodObj (.ref fn) self)) (hf : FnAt fn s.heap) (h : Q true s) : wpAny (model prog w) A (borrowsExactly (.ref q)) Q E s := by
  obtain ⟨oc, od, fd, sl, ho⟩ := hf
  show wpAny _ _ (load q >>= _) _ _ s
  refine wpAny_bind (wpAny_load hq ?_)
  show wpAny _ _ (load fn >>= _) _ _ s
  refine wpAny_bind (wpAny_load ho ?_)
  exact wpAny_pure h

/-- a turn of the live iterator: the method is called; a sign is handed on, the empty text ends it -/
theorem ci_next {fn : Addr} {self : Value} {Q : Option Value → Shared → Prop} (hh : A.handled = none) (hI : s.heap.get? I = some (ciObj q t)) (hq : s.heap.get? q = some (methodObj (.ref fn) self)) (hf : FnAt fn s.heap)
    (hc : codeAny (model prog w) A.in1 (.call (.ref fn) ⟨[self], []⟩) (fun r s' => match r with
      | .ok (.ret v) => ∃ x tx, v = .str x tx ∧ s'.heap.get? I = some (ciObj q t) ∧ s'.heap.get? q = some (methodObj (.ref fn) self) ∧ FnAt fn s'.heap ∧
          (if (Str.ofString "" == x) = true then ∀ h', KeptH [I] s'.heap h' → h'.get? I = some ciEnd → Q none { s' with heap := h' } else Q (some v) s')
      | _ => False) s) :
    wpAny (model prog w) A (pyNext (.ref I)) Q E s := by
  have hT : s.TypeIs (.ref I) "callable_iterator" := ⟨_, hI, rfl⟩
  unfold pyNext
  refine wpAny_bind (wpAny_attempt (wpAny_callSpecial?_slot (name := Str.ofString "__next__") hT slot_ci_next
    (wpAny_call_entry slot_ci_next hT entry_ci_next ?_ (args_ci_next _))))
  show wpAny _ _ (field (.ref I) 2 >>= _) _ _ s
  refine wpAny_bind (wpAny_field hI rfl (x := .bool false) rfl ?_)
  show wpAny _ _ (field (.ref I) 0 >>= _) _ _ s
  refine wpAny_bind (wpAny_field hI rfl (x := .ref q) rfl ?_)
  refine wpAny_bind (wpAny_attempt ?_)
  show wpAny _ _ (borrowsExactly (.ref q) >>= _) _ _ s
  refine wpAny_bind (ci_borrows hq hf ?_)
  show wpAny _ _ (callBorrowed (.ref q) []) _ _ s
  refine wpAny_callBorrowed (method_call hq (codeAny_mono hc fun r s' hr => ?_))
  match r, hr with
  | .ok (.ret v), hr =>
    obtain ⟨x, tx, rfl, hI', hq', hf', hr⟩ := hr
    show wpAny _ _ (field (.ref I) 2 >>= _) _ _ s'
    refine wpAny_bind (wpAny_field hI' rfl (x := .bool false) rfl ?_)
    show wpAny _ _ (field (.ref I) 1 >>= _) _ _ s'
    refine wpAny_bind (wpAny_field hI' rfl (x := .str (Str.ofString "") t) rfl ?_)
    refine wpAny_bind (wpAny_holding (eqBool_str ?_))
    by_cases hx : (Str.ofString "" == x) = true
    · rw [if_pos hx] at hr
      rw [hx]
      show wpAny _ _ (rule "callable_iterator.__next__.sentinel" >>= _) _ _ s'
      refine wpAny_bind (wpAny_rule ?_)
      refine wpAny_bind ?_
      show wpAny _ _ (field (.ref I) 0 >>= _) _ _ s'
      refine wpAny_bind (wpAny_field hI' rfl (x := .ref q) rfl ?_)
      refine wpAny_bind ?_
      show wpAny _ _ (borrowsExactly (.ref q) >>= _) _ _ s'
      refine wpAny_bind (ci_borrows hq' hf' ?_)
      refine wpAny_pure ?_
      refine wpAny_bind (wpAny_setField_rec hI' (by simp) fun h₁ g₁ k₁ => ?_)
      refine wpAny_bind (wpAny_setField_rec g₁ (by simp) fun h₂ g₂ k₂ => ?_)
      refine wpAny_setField_rec g₂ (by simp) fun h₃ g₃ k₃ => ?_
      refine ci_stop (A₁ := A.in1) hh fun h' kk => ?_
      refine hr h' (fun b o e hb => ?_) (kk _ _ ?_)
      · simp only [List.mem_singleton] at hb
        exact kk _ _ ((k₃.2 b hb).trans ((k₂.2 b hb).trans ((k₁.2 b hb).trans e)))
      · exact g₃
    · rw [if_neg hx] at hr
      rw [eq_false_of_ne_true hx]
      show wpAny _ _ (ret (.str x tx) >>= _) _ _ s'
      refine wpAny_bind (wpAny_pure (wpAny_pure ⟨_, rfl, ?_⟩))
      exact wpAny_pure hr
end

theorem entry_iter : entryFor table "iter" = some Builtin.«iter» := entryFor_of_fast (by kernel_rfl)
theorem args_iter2 (a b : Value) : argsOk "iter" ⟨[a, b], []⟩ := by unfold argsOk; kernel_rfl
theorem method_callable : typeLookup (.type "method") (Str.ofString "__call__") = pure (some (.builtin "method.__call__")) := by rw [typeLookup_type, builtinLookup_eq_fast]; kernel_rfl
theorem iter2_M {prog : Program} {w : World} {A : Around} {s : Shared} {E : Value → Shared → Prop} {g : Heap} {L q : Addr} {m : Str → Option Value} {news : List (Addr × Obj)} {f self : Value} {t : Tok} {Q : Value → Shared → Prop}
    (F : Fr g L s.heap m) (N : News g L s.heap news) (hq : (q, methodObj f self) ∈ news)
    (h : ∀ I h', Fr g L h' m → News g L h' ((I, ciObj q t) :: news) → (∀ p ∈ news, p.1 < I) → L < I → Q (.ref I) { s with heap := h' }) :
    wpAny (model prog w) A (call (.builtin "iter") [.ref q, .str (Str.ofString "") t]) Q E s := by
  have hT : s.TypeIs (.ref q) "method" := ⟨_, N.get hq, rfl⟩
  refine call_function_entry (by decide +kernel) (by decide +kernel) entry_iter (args_iter2 _ _) ?_
  unfold Builtin.«iter»
  refine wpAny_bind (m := someArgs "iter" 1 2 _) (wpAny_of_eq (a := [Value.ref q, .str (Str.ofString "") t]) (by first | rfl | kernel_rfl!) ?_)
  refine wpAny_bind (wpAny_specialOf hT method_callable ?_)
  show wpAny _ _ (rule "iter.sentinel" >>= _) _ _ s
  refine wpAny_bind (wpAny_rule ?_)
  refine wpAny_bind (wpAny_newObj_type (wpAny_pure ⟨_, rfl, ?_⟩))
  exact h _ _ (F.push _) (N.push F _) (fun p hp => Heap.lt_size (N p hp).1) F.ns.lt
local macro_rules | `(tactic| walk_at "call builtin:iter") => `(tactic| (k_here; (with_reducible show wpAny _ _ (call (Value.builtin "iter") [Value.ref _, Value.str _ _]) _ _ _); k_dflt (refine' iter2_M ?k1 ?k2 ?k3 ?_; (case k1 => k_asm); (case k2 => k_asm); (case k3 => k_mem); k_whole); intro l' h' F' N' l1 l2; (try k_lt l1); k_lt2 l2; (try k_sweep)))
-- the walk, up to a loop
local macro_rules | `(tactic| walk_at "mine noloop") => `(tactic| ((fail_if_success (with_reducible show wpAny _ _ (exec (Stmt.For _ _ _ _ _) _) _ _ _)); (fail_if_success (with_reducible show wpAny _ _ (exec (Stmt.While _ _ _ _) _) _ _ _))))
local macro_rules | `(tactic| walk_at "mine steps") => `(tactic| repeat' (first | (k_unfold; (try dsimp only)) | (walk_at "mine noloop"; first | walk1 | (dsimp only; walk_at "mine noloop"; walk1)) | fail "no step"))
theorem off_06 : True := by
  w_top off
  trivial
/-- the lexer stands at the place p of cs, its row number fitting -/
def LexAt (w : World) (g₀ h : Heap) (C : Cfg) (cs : List Nat) (p : Nat) : Prop := Lex w g₀ h C (1 + ((cs.take p).count 10 : Nat)) p

theorem count_step (cs : List Nat) (p : Nat) : (cs.take (min cs.length (p + 1))).count 10 = (cs.take p).count 10 + ((cs.drop p).take 1).count 10 := by
  have e : cs.take (min cs.length (p + 1)) = cs.take p ++ (cs.drop p).take 1 := by
    rw [← List.take_add]
    by_cases h : p + 1 ≤ cs.length
    · rw [Nat.min_eq_right h]
    · rw [Nat.min_eq_left (by omega), List.take_of_length_le (Nat.le_refl _), List.take_of_length_le (by omega)]
  rw [e, List.count_append]

theorem char_at {w : World} {A : Around} {s : Shared} {g₀ : Heap} {mg mb : Str → Option Value} {p : Program} {loose : List Str} {mean : ExcName → Option Value} {R : Result → Shared → Prop}
    {cs : List Nat} {C : Cfg} {i : Nat}
    (X₀ : (hd.heap_39 w.params).In g₀) (T₀ : Top p loose mean mg mb g₀) (hs : g₀.StaysIn s.heap) (hA : AOk 470 A) (O : C.Ord) (rd : Reader w g₀ cs C.f C.P C.rs) (hx : LexAt w g₀ s.heap C cs i) (hi : i ≤ cs.length)
    (h : ∀ h' tk tr, KeptH [C.dl, C.P] s.heap h' → LexAt w g₀ h' C cs (min cs.length (i + 1)) → R (.ok (.ret (.str (mkS ((cs.drop i).take 1)) tr))) { s with heap := h', toks := tk }) :
    codeAny (model pr w) A (.call (.ref 35) ⟨[.ref C.lx], []⟩) R s := by
  refine char_spec X₀ T₀ hs hA O rd hx hi fun h' tk tr k l => h h' tk tr k ?_
  unfold LexAt
  rw [count_step]
  have e : (1 : Int) + (((cs.take i).count 10 + ((cs.drop i).take 1).count 10 : Nat) : Int) = 1 + ((cs.take i).count 10 : Nat) + (((cs.drop i).take 1).count 10 : Nat) := by omega
  rw [e]; exact l

/-- the ledger of get_token: the lexer, what was pushed back, the method, the iterator -/
abbrev tkRows (w : World) (C : Cfg) (cs : List Nat) (t1 t2 t3 t4 tn tw tp np : Nat) (p : Nat) (pbO : Obj) (q I : Addr) (iO : Obj) : List (Addr × Obj) :=
  [(C.lx, instObj 52 C.dl), (C.dl, dictOf (lexD w t1 t2 t3 t4 (1 + ((cs.take p).count 10 : Nat)) tn (.ref C.src) tw C.pb) 4), (C.src, instObj 52 C.ds), (C.ds, dictOf (srcD w C.u1 C.u2 C.u3 C.u4 C.u5 1 C.un .none C.uw C.sb C.f) 5),
   (C.P, W.listOf #[.int (p : Int) tp] np), (C.f, fnObj C.fd), (C.c, C.oc), (C.cP, C.oP), (C.cT, C.oT), (C.pb, pbO), (q, methodObj (.ref 35) (.ref C.lx)), (I, iO)]
/-- the state of get_token's frame -/
structure St (w : World) (g : Heap) (L : Addr) (C : Cfg) (cs : List Nat) (pbO : Obj) (q I : Addr) (p : Nat) (iO : Obj) (m : Str → Option Value) (h : Heap) : Prop where
  fr : Fr g L h m
  nw : ∃ t1 t2 t3 t4 tn tw tp np, News g L h (tkRows w C cs t1 t2 t3 t4 tn tw tp np p pbO q I iO)

section
variable {w : World} {g₀ g h h' : Heap} {L q I : Addr} {C : Cfg} {cs : List Nat} {pbO iO iO' : Obj} {p p' : Nat} {m m' : Str → Option Value}
theorem St.lex (S : St w g L C cs pbO q I p iO m h) (st : g₀.StaysIn g) : LexAt w g₀ h C cs p := by
  obtain ⟨t1, t2, t3, t4, tn, tw, tp, np, N⟩ := S.nw
  refine ⟨t1, t2, t3, t4, tn, tw, tp, np, Has.news N st ?_⟩
  walk_at "mine mems"
theorem far1 {a x : Addr} (h : a ≠ x) : a ∉ [x] := fun hm => h (List.mem_singleton.mp hm)
theorem far2 {a x y : Addr} (h : a ≠ x) (h' : a ≠ y) : a ∉ [x, y] := fun hm => (List.mem_cons.mp hm).elim h (far1 h')
theorem only1 {a : Addr} {P : Addr → Prop} (h : P a) : ∀ b ∈ [a], P b := fun _ hb => List.mem_singleton.mp hb ▸ h
theorem only2 {a a' : Addr} {P : Addr → Prop} (h : P a) (h' : P a') : ∀ b ∈ [a, a'], P b := List.forall_mem_cons.mpr ⟨h, only1 h'⟩
/-- behind a turn of the reader -/
theorem St.step (S : St w g L C cs pbO q I p iO m h) (O : C.Ord) (hq : C.pb < q) (hI : q < I) (k : KeptH [C.dl, C.P] h h') (l : LexAt w g₀ h' C cs p') : St w g L C cs pbO q I p' iO m h' := by
  obtain ⟨t1, t2, t3, t4, tn, tw, tp, np, N⟩ := S.nw
  obtain ⟨v1, v2, v3, v4, vn, vw, vp, mp, H⟩ := l
  obtain ⟨o1, o2, o3, o4, o5, o6, o7, o8, o9⟩ := O
  replace o1 := ltN o1; replace o2 := ltN o2; replace o3 := ltN o3; replace o4 := ltN o4; replace o5 := ltN o5; replace o6 := ltN o6; replace o7 := ltN o7; replace o8 := ltN o8; replace o9 := ltN o9
  replace hq := ltN hq; replace hI := ltN hI
  have hdl := (N (C.dl, _) (.tail _ (.head _))).2
  have hP := (N (C.P, _) (.tail _ (.tail _ (.tail _ (.tail _ (.head _)))))).2
  refine ⟨k.fr S.fr (far2 (Ne.symm hdl.1) (Ne.symm hP.1)) (only2 hdl.2 hP.2), v1, v2, v3, v4, vn, vw, vp, mp, k.news N ?_⟩
  refine List.forall_mem_cons.mpr ⟨.inr ⟨(H _ (.head _)).1, _, by k_mem⟩, ?_⟩
  refine List.forall_mem_cons.mpr ⟨.inr ⟨(H _ (.tail _ (.head _))).1, _, by k_mem⟩, ?_⟩
  refine List.forall_mem_cons.mpr ⟨.inr ⟨(H _ (.tail _ (.tail _ (.head _)))).1, _, by k_mem⟩, ?_⟩
  refine List.forall_mem_cons.mpr ⟨.inr ⟨(H _ (.tail _ (.tail _ (.tail _ (.head _))))).1, _, by k_mem⟩, ?_⟩
  refine List.forall_mem_cons.mpr ⟨.inr ⟨(H _ (.tail _ (.tail _ (.tail _ (.tail _ (.head _)))))).1, _, by k_mem⟩, ?_⟩
  iterate 7 refine List.forall_mem_cons.mpr ⟨.inl ⟨by k_mem, far2 (by k_ne) (by k_ne)⟩, ?_⟩
  exact List.forall_mem_nil _
/-- behind the iterator's end -/
theorem St.ended (S : St w g L C cs pbO q I p iO m h) (O : C.Ord) (hq : C.pb < q) (hI : q < I) (k : KeptH [I] h h') (he : h'.get? I = some iO') : St w g L C cs pbO q I p iO' m h' := by
  obtain ⟨t1, t2, t3, t4, tn, tw, tp, np, N⟩ := S.nw
  obtain ⟨o1, o2, o3, o4, o5, o6, o7, o8, o9⟩ := O
  replace o1 := ltN o1; replace o2 := ltN o2; replace o3 := ltN o3; replace o4 := ltN o4; replace o5 := ltN o5; replace o6 := ltN o6; replace o7 := ltN o7; replace o8 := ltN o8; replace o9 := ltN o9
  replace hq := ltN hq; replace hI := ltN hI
  have hIN := (N (I, iO) (.tail _ (.tail _ (.tail _ (.tail _ (.tail _ (.tail _ (.tail _ (.tail _ (.tail _ (.tail _ (.tail _ (.head _))))))))))))).2
  refine ⟨k.fr S.fr (far1 (Ne.symm hIN.1)) (only1 hIN.2), t1, t2, t3, t4, tn, tw, tp, np, k.news N ?_⟩
  iterate 11 refine List.forall_mem_cons.mpr ⟨.inl ⟨by k_mem, far1 (by k_ne)⟩, ?_⟩
  exact List.forall_mem_cons.mpr ⟨.inr ⟨he, iO, by k_mem⟩, List.forall_mem_nil _⟩
end

theorem fn35 {w : World} {h : Heap} (X : (hd.heap_39 w.params).In h) : FnAt 35 h := ⟨_, _, _, _, X 35 _ (by k_is)⟩
theorem AOk.in1 {d : Nat} {A : Around} (hA : AOk d A) : AOk (d + 1) A.in1 := ⟨hA.1, Nat.le_succ_of_le hA.2.1, Nat.succ_le_succ hA.2.2⟩
theorem empty_eq : Str.ofString "" = mkS [] := by decide +kernel
theorem drop_cons {cs : List Nat} {p : Nat} (h : p < cs.length) : cs.drop p = cs[p] :: cs.drop (p + 1) := List.drop_eq_getElem_cons h

section
variable {w : World} {A : Around} {s : Shared} {E : Value → Shared → Prop} {g₀ g : Heap} {mg mb : Str → Option Value} {pg : Program} {loose : List Str} {mean : ExcName → Option Value}
  {L q I : Addr} {C : Cfg} {cs : List Nat} {pbO : Obj} {t : Tok} {m : Str → Option Value}

theorem ci_turn {p : Nat} {Q : Option Value → Shared → Prop} (X₀ : (hd.heap_39 w.params).In g₀) (T₀ : Top pg loose mean mg mb g₀) (st : g₀.StaysIn g) (hA : AOk 460 A) (O : C.Ord) (rd : Reader w g₀ cs C.f C.P C.rs) (lq : C.pb < q) (lI : q < I)
    (S : St w g L C cs pbO q I p (ciObj q t) m s.heap) (hp : p ≤ cs.length)
    (hend : p = cs.length → ∀ h' tk, St w g L C cs pbO q I cs.length ciEnd m h' → Q none { s with heap := h', toks := tk })
    (hgo : ∀ (hp : p < cs.length), ∀ h' tk tc, St w g L C cs pbO q I (p + 1) (ciObj q t) m h' → Q (some (.str (mkS [cs[p]]) tc)) { s with heap := h', toks := tk }) :
    wpAny (model pr w) A (pyNext (.ref I)) Q E s := by
  have hs : g₀.StaysIn s.heap := fun b o e => S.fr.keep b o (st b o e)
  have hIq : s.heap.get? I = some (ciObj q t) ∧ s.heap.get? q = some (methodObj (.ref 35) (.ref C.lx)) := by
    obtain ⟨t1, t2, t3, t4, tn, tw, tp, np, N⟩ := S.nw
    exact ⟨N.get (by simp), N.get (by simp)⟩
  refine ci_next hA.1 hIq.1 hIq.2 (fn35 (X₀.keeps hs)) ?_
  refine char_at X₀ T₀ hs (hA.in1.mono (by omega)) O rd (S.lex st) hp ?_
  intro h' tk tr k l
  have S' := S.step O lq lI k l
  have hIq' : h'.get? I = some (ciObj q t) ∧ h'.get? q = some (methodObj (.ref 35) (.ref C.lx)) := by
    obtain ⟨t1, t2, t3, t4, tn, tw, tp, np, N⟩ := S'.nw
    exact ⟨N.get (by simp), N.get (by simp)⟩
  refine ⟨_, _, rfl, hIq'.1, hIq'.2, fn35 (X₀.keeps fun b o e => S'.fr.keep b o (st b o e)), ?_⟩
  by_cases hlt : p < cs.length
  · have e1 : (cs.drop p).take 1 = [cs[p]] := by rw [drop_cons hlt]; rfl
    rw [e1, empty_eq, mkS_beq]
    rw [if_neg (by simp)]
    rw [Nat.min_eq_right (by omega)] at S'
    exact hgo hlt h' tk tr S'
  · have e1 : (cs.drop p).take 1 = [] := by rw [List.drop_eq_nil_of_le (by omega)]; rfl
    rw [e1, empty_eq, mkS_beq]
    rw [if_pos (by simp)]
    intro h'' k' e'
    rw [Nat.min_eq_left (by omega)] at S'
    exact hend (by omega) h'' tk (S'.ended O lq lI k' e')

/-- what a turn of the body must come to -/
def Goes (w : World) (s : Shared) (g : Heap) (L q I : Addr) (C : Cfg) (cs : List Nat) (pbO : Obj) (t : Tok) (J : Nat → (Str → Option Value) → Prop) (Je : (Str → Option Value) → Prop) (Q : Flow → Shared → Prop) (p : Nat) (f : Flow) (s₃ : Shared) : Prop := match f with
  | .next | .cont => (∃ p' m' h' tk', s₃ = { s with heap := h', toks := tk' } ∧ p < p' ∧ p' ≤ cs.length ∧ J p' m' ∧ St w g L C cs pbO q I p' (ciObj q t) m' h') ∨ (∃ m' h' tk', s₃ = { s with heap := h', toks := tk' } ∧ Je m' ∧ St w g L C cs pbO q I cs.length ciEnd m' h')
  | .brk => Q .next s₃
  | .ret v => Q (.ret v) s₃

theorem for_ci {env : Env} {v y : Str} {px py pos : Pos} {body : List Stmt} {p₀ : Nat} {Q : Flow → Shared → Prop} (J : Nat → (Str → Option Value) → Prop) (Je : (Str → Option Value) → Prop) (hJe : ∀ m, J cs.length m → Je m)
    (X₀ : (hd.heap_39 w.params).In g₀) (T₀ : Top pg loose mean mg mb g₀) (st : g₀.StaysIn g) (hA : AOk 460 A) (O : C.Ord) (rd : Reader w g₀ cs C.f C.P C.rs) (lq : C.pb < q) (lI : q < I)
    (S : St w g env.locals C cs pbO q I p₀ (ciObj q t) m s.heap) (hp : p₀ ≤ cs.length) (hJ : J p₀ m)
    (hy : ∀ {Q' : Value → Shared → Prop}, Q' (.ref I) s → wpAny (model pr w) A (eval (.Name y py) env) Q' (fun _ _ => False) s)
    (hv : env.kindOf v = some .local) (hke : env.scope.kind = .function)
    (hend : ∀ m h tk, Je m → St w g env.locals C cs pbO q I cs.length ciEnd m h → Q .next { s with heap := h, toks := tk })
    (turn : ∀ p (hp : p < cs.length) m h tk tc, J p m → St w g env.locals C cs pbO q I (p + 1) (ciObj q t) (fun z => if z = v then some (.str (mkS [cs[p]]) tc) else m z) h → ∀ Wk : Flow → Shared → Prop, (∀ f s₃, Goes w s g env.locals q I C cs pbO t J Je Q p f s₃ → Wk f s₃) →
      wpAny (model pr w) A (execs body env) Wk (fun _ _ => False) { s with heap := h, toks := tk }) :
    wpAny (model pr w) A (exec (.For (.Name v px) (.Name y py) body [] pos) env) Q (fun _ _ => False) s := by
  have hIo : ∀ {p : Nat} {iO : Obj} {m : Str → Option Value} {h : Heap}, St w g env.locals C cs pbO q I p iO m h → h.get? I = some iO := by
    intro p iO m h S
    obtain ⟨t1, t2, t3, t4, tn, tw, tp, np, N⟩ := S.nw
    exact N.get (by simp)
  refine wpAny_For (hy (ci_iter (hIo S) rfl ?_))
  refine codeAny_forLoop (fun n s' => (∃ p m h tk, n = cs.length + 1 - p ∧ s' = { s with heap := h, toks := tk } ∧ p ≤ cs.length ∧ J p m ∧ St w g env.locals C cs pbO q I p (ciObj q t) m h) ∨ (∃ m h tk, n = 0 ∧ s' = { s with heap := h, toks := tk } ∧ Je m ∧ St w g env.locals C cs pbO q I cs.length ciEnd m h)) ?_ (cs.length + 1 - p₀) (.inl ⟨p₀, m, s.heap, s.toks, rfl, rfl, hp, hJ, S⟩)
  rintro n s' (⟨p, m₁, h₁, tk₁, rfl, rfl, hp₁, hJ₁, S₁⟩ | ⟨m₁, h₁, tk₁, rfl, rfl, hJ₁, S₁⟩)
  · refine ci_turn X₀ T₀ st hA O rd lq lI S₁ hp₁ ?_ ?_
    · intro e h' tk S'
      subst e
      exact wpAny_execs_nil (hend m₁ h' tk (hJe _ hJ₁) S')
    · intro hlt h' tk tc S'
      refine wpAny_mono (Q := fun _ s₂ => wpAny (model pr w) A (execs body env) (Goes w s g env.locals q I C cs pbO t J Je Q p) (fun _ _ => False) s₂) (E := fun _ _ => False) ?_ (fun _ s₂ h₂ => wpAny_mono h₂ (fun f s₃ h₃ => ?_) fun _ _ z => z.elim) fun _ _ z => z.elim
      · refine wpAny_assign_Name (wpAny_storeName_local hv S'.fr.ns (fun h₂ hn hsb => ?_) (by rw [hke]; rfl))
        refine turn p hlt m₁ h₂ _ tc hJ₁ ⟨S'.fr.set hn hsb, ?_⟩ _ fun _ _ z => z
        obtain ⟨t1, t2, t3, t4, tn, tw, tp, np, N⟩ := S'.nw
        exact ⟨t1, t2, t3, t4, tn, tw, tp, np, N.set hsb⟩
      · have fin : ((∃ p' m' h' tk', s₃ = { s with heap := h', toks := tk' } ∧ p < p' ∧ p' ≤ cs.length ∧ J p' m' ∧ St w g env.locals C cs pbO q I p' (ciObj q t) m' h') ∨ (∃ m' h' tk', s₃ = { s with heap := h', toks := tk' } ∧ Je m' ∧ St w g env.locals C cs pbO q I cs.length ciEnd m' h')) →
            ∃ n', n' < cs.length + 1 - p ∧ ((∃ p m h tk, n' = cs.length + 1 - p ∧ s₃ = { s with heap := h, toks := tk } ∧ p ≤ cs.length ∧ J p m ∧ St w g env.locals C cs pbO q I p (ciObj q t) m h) ∨ (∃ m h tk, n' = 0 ∧ s₃ = { s with heap := h, toks := tk } ∧ Je m ∧ St w g env.locals C cs pbO q I cs.length ciEnd m h)) := by
          rintro (⟨p', m', h', tk', rfl, h1, h2, h3, h4⟩ | ⟨m', h', tk', rfl, h3, h4⟩)
          · exact ⟨cs.length + 1 - p', by omega, .inl ⟨p', m', h', tk', rfl, rfl, h2, h3, h4⟩⟩
          · exact ⟨0, by omega, .inr ⟨m', h', tk', rfl, rfl, h3, h4⟩⟩
        cases f with
        | next => exact fin h₃
        | cont => exact fin h₃
        | brk => exact h₃
        | ret v => exact h₃
  · refine ci_next_end hA.1 (hIo S₁) fun h' kk => ?_
    refine wpAny_execs_nil (hend m₁ h' tk₁ hJ₁ ?_)
    obtain ⟨t1, t2, t3, t4, tn, tw, tp, np, N⟩ := S₁.nw
    have k0 : KeptH [] h₁ h' := fun b o e _ => kk b o e
    exact ⟨k0.fr0 S₁.fr, t1, t2, t3, t4, tn, tw, tp, np, k0.news0 N⟩
end
theorem off_07 : True := by
  w_top off
  trivial
/-! the plain lexer, on lists of signs -/
def isWs (c : Nat) : Bool := c == 10 || c == 9 || c == 13 || c == 32
/-- the signs of a word up to the next bare stop, and what is left -/
def tokS (stop : Nat → Bool) : List Nat → List Nat × List Nat
  | [] => ([], [])
  | [c] => if stop c then ([], []) else if c = 92 then ([], []) else ([c], [])
  | c :: d :: r => if stop c then ([], d :: r) else if c = 92 then (d :: (tokS stop r).1, (tokS stop r).2) else (c :: (tokS stop (d :: r)).1, (tokS stop (d :: r)).2)
def tok : List Nat → List Nat × List Nat
  | [] => ([], [])
  | c :: r => if isWs c then tok r else if c = 34 then tokS (· == 34) r else tokS isWs (c :: r)

theorem tokS_stop {stop : Nat → Bool} {c : Nat} {r : List Nat} (h : stop c = true) : tokS stop (c :: r) = ([], r) := by
  cases r <;> simp [tokS, h]
theorem tokS_plain {stop : Nat → Bool} {c : Nat} {r : List Nat} (h : stop c = false) (h2 : c ≠ 92) : tokS stop (c :: r) = (c :: (tokS stop r).1, (tokS stop r).2) := by
  cases r <;> simp [tokS, h, h2]
theorem tokS_esc {stop : Nat → Bool} {d : Nat} {r : List Nat} (h : stop 92 = false) : tokS stop (92 :: d :: r) = (d :: (tokS stop r).1, (tokS stop r).2) := by
  simp [tokS, h]
theorem tokS_esc_end {stop : Nat → Bool} (h : stop 92 = false) : tokS stop [92] = ([], []) := by
  simp [tokS, h]
theorem tok_ws {c : Nat} {r : List Nat} (h : isWs c = true) : tok (c :: r) = tok r := by simp [tok, h]
theorem tok_quote {r : List Nat} : tok (34 :: r) = tokS (· == 34) r := by simp [tok, isWs]
theorem tok_word {c : Nat} {r : List Nat} (h : isWs c = false) (h2 : c ≠ 34) : tok (c :: r) = tokS isWs (c :: r) := by simp [tok, h, h2]

theorem tokS_len (stop : Nat → Bool) : ∀ l : List Nat, (tokS stop l).1.length ≤ l.length
  | [] => by simp [tokS]
  | [c] => by
    simp only [tokS]
    split
    · simp
    · split <;> simp
  | c :: d :: r => by
    have h1 := tokS_len stop r
    have h2 := tokS_len stop (d :: r)
    simp only [tokS]
    split
    · simp
    · split
      · simp only [List.length_cons] at *; omega
      · simp only [List.length_cons] at *; omega
theorem tok_len : ∀ l : List Nat, (tok l).1.length ≤ l.length
  | [] => by simp [tok]
  | c :: r => by
    have h1 := tok_len r
    have h2 := tokS_len (· == 34) r
    have h3 := tokS_len isWs (c :: r)
    simp only [tok]
    split
    · simp only [List.length_cons]; omega
    · split
      · simp only [List.length_cons]; omega
      · exact h3

theorem ws_eq : Str.ofString "\n\t\x0d " = mkS [10, 9, 13, 32] := by decide +kernel
theorem quote_eq : Str.ofString "\"" = mkS [34] := by decide +kernel
theorem slash_eq : Str.ofString "\\" = mkS [92] := by decide +kernel
theorem mkS_append (a b : List Nat) : mkS a ++ mkS b = mkS (a ++ b) := by
  show Str.append _ _ = _
  simp [Str.append]

section
variable {prog : Program} {w : World} {A : Around} {E : Value → Shared → Prop} {s : Shared}
theorem in_ws {c : Nat} {u t : Tok} {Q : Value → Shared → Prop} (h : Q (.bool (isWs c)) s) : wpAny (model prog w) A (compareOp .In (.str (mkS [c]) u) (.str (Str.ofString "\n\t\x0d ") t)) Q E s := by
  refine P.in_str ?_
  rw [show mkS [c] = ⟨#[c]⟩ from rfl, StrLaws.found_one]
  have e : decide (c ∈ (Str.ofString "\n\t\x0d ").cps.toList) = isWs c := by
    rw [ws_eq, Bool.eq_iff_iff]
    simp [isWs]
    omega
  rw [e]; exact h
theorem eq_sign {c d : Nat} {x : Str} (hx : x = mkS [d]) {u t : Tok} {Q : Value → Shared → Prop} (h : Q (.bool (c == d)) s) : wpAny (model prog w) A (compareOp .Eq (.str (mkS [c]) u) (.str x t)) Q E s := by
  subst hx
  refine eq_str ?_
  rw [mkS_beq]
  have e : ([c] == [d]) = (c == d) := by
    rw [Bool.eq_iff_iff]; simp
  rw [e]; exact h
theorem iadd_S {a b : List Nat} {u t : Tok} {Q : Value → Shared → Prop} (h : ∀ t' k, Q (.str (mkS (a ++ b)) t') { s with toks := k }) (hsz : a.length + b.length ≤ 16777216) :
    wpAny (model prog w) A (inplaceOp .Add (.str (mkS a) t) (.str (mkS b) u)) Q E s := by
  refine iadd_str (fun t' k => ?_) (by rw [mkS_length, mkS_length, sizeLine_eq]; exact hsz)
  rw [mkS_append]; exact h t' k
end

theorem esc_step {stop : Nat → Bool} (h92 : stop 92 = false) {cs : List Nat} {p : Nat} (hp : p < cs.length) (hc : cs[p] = 92) :
    (tokS stop (cs.drop p)).1 = (cs.drop (p + 1)).take 1 ++ (tokS stop (cs.drop (min cs.length (p + 1 + 1)))).1 ∧ (tokS stop (cs.drop p)).2 = (tokS stop (cs.drop (min cs.length (p + 1 + 1)))).2 := by
  rw [List.drop_eq_getElem_cons hp, hc]
  by_cases h : p + 1 < cs.length
  · rw [List.drop_eq_getElem_cons h, tokS_esc h92, Nat.min_eq_right (by omega)]
    exact ⟨rfl, rfl⟩
  · rw [List.drop_eq_nil_of_le (show cs.length ≤ p + 1 by omega), tokS_esc_end h92, Nat.min_eq_left (by omega), List.drop_eq_nil_of_le (Nat.le_refl _)]
    simp [tokS]
theorem plain_step {stop : Nat → Bool} {cs : List Nat} {p : Nat} (hp : p < cs.length) (hs : stop cs[p] = false) (hc : cs[p] ≠ 92) :
    (tokS stop (cs.drop p)).1 = cs[p] :: (tokS stop (cs.drop (p + 1))).1 ∧ (tokS stop (cs.drop p)).2 = (tokS stop (cs.drop (p + 1))).2 := by
  rw [List.drop_eq_getElem_cons hp, tokS_plain hs hc]
  exact ⟨rfl, rfl⟩
theorem stop_step {stop : Nat → Bool} {cs : List Nat} {p : Nat} (hp : p < cs.length) (hs : stop cs[p] = true) :
    (tokS stop (cs.drop p)).1 = [] ∧ (tokS stop (cs.drop p)).2 = cs.drop (p + 1) := by
  rw [List.drop_eq_getElem_cons hp, tokS_stop hs]
  exact ⟨rfl, rfl⟩
theorem pair_eq {α β : Type} {a a' : α} {b b' : β} (h : (a, b) = (a', b')) : a = a' ∧ b = b' := by cases h; exact ⟨rfl, rfl⟩
local macro_rules | `(tactic| walk_at "compareOp In str str") => `(tactic| (k_here; refine in_ws ?_))
local macro_rules | `(tactic| walk_at "compareOp Eq str str") => `(tactic| (k_here; first | refine eq_sign quote_eq ?_ | refine eq_sign slash_eq ?_))
local macro_rules | `(tactic| walk_at "inplaceOp Add str str") => `(tactic| (k_here; refine' iadd_S ?_ ?hsz; (case hsz => (simp only [List.length_cons, List.length_nil, List.length_take, List.length_drop, List.length_append]; omega)); intro _ _))
theorem off_08 : True := by
  w_top off
  trivial
theorem char_M {w : World} {A : Around} {s : Shared} {E : Value → Shared → Prop} {g₀ g : Heap} {mg mb : Str → Option Value} {pg : Program} {loose : List Str} {mean : ExcName → Option Value}
    {L q I : Addr} {C : Cfg} {cs : List Nat} {pbO iO : Obj} {m : Str → Option Value} {p : Nat} {Q : Value → Shared → Prop} {t1 t2 t3 t4 tn tw tp np : Nat}
    (X₀ : (hd.heap_39 w.params).In g₀) (T₀ : Top pg loose mean mg mb g₀) (st : g₀.StaysIn g) (hA : AOk 470 A) (O : C.Ord) (rd : Reader w g₀ cs C.f C.P C.rs) (lq : C.pb < q) (lI : q < I)
    (F : Fr g L s.heap m) (N : News g L s.heap (tkRows w C cs t1 t2 t3 t4 tn tw tp np p pbO q I iO)) (hp : p ≤ cs.length)
    (h : ∀ h' tk tr, ∀ t1 t2 t3 t4 tn tw tp np, Fr g L h' m → News g L h' (tkRows w C cs t1 t2 t3 t4 tn tw tp np (min cs.length (p + 1)) pbO q I iO) → Q (.str (mkS ((cs.drop p).take 1)) tr) { s with heap := h', toks := tk }) :
    wpAny (model pr w) A (call (.ref 35) [.ref C.lx]) Q E s := by
  have S : St w g L C cs pbO q I p iO m s.heap := ⟨F, t1, t2, t3, t4, tn, tw, tp, np, N⟩
  refine wpAny_call (char_at X₀ T₀ (fun b o e => F.keep b o (st b o e)) hA O rd (S.lex st) hp ?_)
  intro h' tk tr k l
  have S' := S.step O lq lI k l
  obtain ⟨v1, v2, v3, v4, vn, vw, vp, mp, N'⟩ := S'.nw
  exact h h' tk tr v1 v2 v3 v4 vn vw vp mp S'.fr N'

/-- get_token's locals -/
abbrev mpT (lx I : Addr) (ch : Option Value) (tk : Value) : Str → Option Value := fun y =>
  if y = Str.ofString "ch" then ch else if y = Str.ofString "token" then some tk else if y = Str.ofString "fiter" then some (.ref I) else if y = Str.ofString "self" then some (.ref lx) else none

theorem St.of {w : World} {g h : Heap} {L q I : Addr} {C : Cfg} {cs : List Nat} {pbO iO : Obj} {p : Nat} {m m₀ : Str → Option Value} {news : List (Addr × Obj)} {t1 t2 t3 t4 tn tw tp np : Nat}
    (F : Fr g L h m₀) (hm : m₀ = m) (N : News g L h news) (hs : ∀ r ∈ tkRows w C cs t1 t2 t3 t4 tn tw tp np p pbO q I iO, r ∈ news) : St w g L C cs pbO q I p iO m h :=
  ⟨hm ▸ F, t1, t2, t3, t4, tn, tw, tp, np, fun r hr => N r (hs r hr)⟩

theorem lookup_one (y x : Str) (v : Value) : List.lookup y [(x, v)] = if y = x then some v else none := by
  rw [List.lookup_cons]
  by_cases h : y = x
  · subst h; simp
  · rw [if_neg h, show (y == x) = false from beq_eq_false_iff_ne.mpr h]; rfl

theorem mp_start (lx I : Addr) (v : Value) : (fun y => if y = Str.ofString "fiter" then some (Value.ref I) else if y = Str.ofString "token" then some v else List.lookup y [(Str.ofString "self", Value.ref lx)]) = mpT lx I none v := by
  funext y
  rw [lookup_one]
  by_cases h1 : y = Str.ofString "ch"
  · subst h1; rfl
  by_cases h2 : y = Str.ofString "token"
  · subst h2; rfl
  by_cases h3 : y = Str.ofString "fiter"
  · subst h3; rfl
  simp only [mpT, if_neg h1, if_neg h2, if_neg h3]

theorem mp_start' (lx I : Addr) (t : Tok) : (fun y => if y = Str.ofString "fiter" then some (Value.ref I) else if y = Str.ofString "token" then some (Value.str (Str.ofString "") t) else List.lookup y [(Str.ofString "self", Value.ref lx)]) = mpT lx I none (.str (mkS []) t) := by
  rw [← empty_eq]; exact mp_start lx I _


theorem map_ext {m m' : Str → Option Value} (h1 : m (Str.ofString "ch") = m' (Str.ofString "ch")) (h2 : m (Str.ofString "token") = m' (Str.ofString "token")) (h3 : m (Str.ofString "fiter") = m' (Str.ofString "fiter")) (h4 : m (Str.ofString "self") = m' (Str.ofString "self"))
    (h5 : ∀ y, y ≠ Str.ofString "ch" → y ≠ Str.ofString "token" → y ≠ Str.ofString "fiter" → y ≠ Str.ofString "self" → m y = m' y) : m = m' := by
  funext y
  by_cases e1 : y = Str.ofString "ch"
  · subst e1; exact h1
  by_cases e2 : y = Str.ofString "token"
  · subst e2; exact h2
  by_cases e3 : y = Str.ofString "fiter"
  · subst e3; exact h3
  by_cases e4 : y = Str.ofString "self"
  · subst e4; exact h4
  exact h5 y e1 e2 e3 e4

theorem mp_tok (lx I : Addr) (ch : Option Value) (tk c v : Value) : (fun y => if y = Str.ofString "token" then some v else if y = Str.ofString "ch" then some c else mpT lx I ch tk y) = mpT lx I (some c) v :=
  map_ext rfl rfl rfl rfl (fun y h1 h2 h3 h4 => by simp only [mpT, if_neg h1, if_neg h2, if_neg h3, if_neg h4])
theorem mp_tok2 (lx I : Addr) (ch : Option Value) (tk c c' v : Value) : (fun y => if y = Str.ofString "token" then some v else if y = Str.ofString "ch" then some c else if y = Str.ofString "ch" then some c' else mpT lx I ch tk y) = mpT lx I (some c) v :=
  map_ext rfl rfl rfl rfl (fun y h1 h2 h3 h4 => by simp only [mpT, if_neg h1, if_neg h2, if_neg h3, if_neg h4])
local macro_rules | `(tactic| walk_at "mine maps") => `(tactic| exact map_ext rfl rfl rfl rfl (fun y h1 h2 h3 h4 => by simp only [mpT, if_neg h1, if_neg h2, if_neg h3, if_neg h4]))
local macro_rules | `(tactic| walk_at "call ref") => `(tactic| (k_here; (k_dflt (show wpAny _ _ (call (Value.ref 35) [Value.ref _] []) _ _ _)); (with_reducible rename Reader _ _ _ _ _ _ => rd'); k_dflt (refine' char_M ?k1 ?k2 ?k3 ?k4 ?k5 rd' ?k6 ?k7 ?k8 ?k9 ?k10 ?_; (case k9 => k_asm); (case k8 => k_asm); (case k1 => assumption); (case k2 => assumption); (case k3 => assumption); (case k4 => walk_at "mine aok"); (case k5 => assumption); (case k6 => assumption); (case k7 => assumption); (case k10 => omega); k_whole); intro h' tk' tr' a1 a2 a3 a4 a5 a6 a7 a8 F' N'; (try dsimp only [tkRows] at N'); (try k_sweep)))
theorem off_09 : True := by
  w_top off
  trivial
theorem tok_spec {w : World} {A : Around} {s : Shared} {g₀ : Heap} {mg mb : Str → Option Value} {p : Program} {loose : List Str} {mean : ExcName → Option Value} {R : Result → Shared → Prop}
    {cs : List Nat} {C : Cfg} {i npb : Nat} (htx : cs.length ≤ 100)
    (X₀ : (hd.heap_39 w.params).In g₀) (T₀ : Top p loose mean mg mb g₀) (hs : g₀.StaysIn s.heap) (hA : AOk 440 A) (O : C.Ord) (rd : Reader w g₀ cs C.f C.P C.rs) (hx : LexAt w g₀ s.heap C cs i) (hi : i ≤ cs.length)
    (Hp : Has g₀ s.heap [(C.pb, W.listOf #[] npb)])
    (h : ∀ h' tk tr, KeptH [C.dl, C.P] s.heap h' → LexAt w g₀ h' C cs (cs.length - (tok (cs.drop i)).2.length) → R (.ok (.ret (.str (mkS (tok (cs.drop i)).1) tr))) { s with heap := h', toks := tk }) :
    codeAny (model pr w) A (.call (.ref 42) ⟨[.ref C.lx], []⟩) R s := by
  obtain ⟨t1, t2, t3, t4, tn, tw, tp, np, H⟩ := hx
  have H' : Has g₀ s.heap [(C.lx, instObj 52 C.dl), (C.dl, dictOf (lexD w t1 t2 t3 t4 (1 + ((cs.take i).count 10 : Nat)) tn (.ref C.src) tw C.pb) 4), (C.src, instObj 52 C.ds), (C.ds, dictOf (srcD w C.u1 C.u2 C.u3 C.u4 C.u5 1 C.un .none C.uw C.sb C.f) 5),
   (C.P, W.listOf #[.int (i : Int) tp] np), (C.f, fnObj C.fd), (C.c, C.oc), (C.cP, C.oP), (C.cT, C.oT), (C.pb, W.listOf #[] npb)] := fun r hr => by
    rcases List.mem_append.mp (show r ∈ lexRows w C t1 t2 t3 t4 tn tw tp np (1 + ((cs.take i).count 10 : Nat)) i ++ [(C.pb, W.listOf #[] npb)] from hr) with hr | hr
    · exact H r hr
    · exact Hp r hr
  clear H Hp
  have O' := O
  obtain ⟨o1, o2, o3, o4, o5, o6, o7, o8, o9⟩ := O'
  replace o1 := ltN o1; replace o2 := ltN o2; replace o3 := ltN o3; replace o4 := ltN o4; replace o5 := ltN o5; replace o6 := ltN o6; replace o7 := ltN o7; replace o8 := ltN o8; replace o9 := ltN o9
  walk_at "mine enter"
  walk_at "mine steps"
  -- the loop over the file
  obtain ⟨T1, T2, hT⟩ : ∃ T1 T2, tok (cs.drop i) = (T1, T2) := ⟨_, _, rfl⟩
  have hT1 : T1.length ≤ 100 := by
    have := tok_len (cs.drop i)
    rw [hT] at this
    simp only [List.length_drop] at this
    omega
  rw [hT] at h
  dsimp only at h
  rename_i dp fr gd unn hdp hun g L h₀ st X T kp l1 l2 tka tkb hb q hc l3 I hd' l4 l5 he F N
  obtain ⟨t, tt₀, S⟩ : ∃ t tt, St w g L C cs (W.listOf #[] npb) q I i (ciObj q t) (mpT C.lx I none (.str (mkS []) tt)) he := by
    refine' ⟨_, _, St.of F (mp_start' C.lx I _) N ?hm⟩
    case hm => walk_at "mine mems"
  have lq : C.pb < q := ltN (by omega)
  have lI : q < I := ltN (by omega)
  -- the end of the call
  have fin : ∀ {p' : Nat} {iO : Obj} {m' : Str → Option Value} {h' : Heap} {tk' tr : Nat}, St w g L C cs (W.listOf #[] npb) q I p' iO m' h' → p' = cs.length - T2.length → R (.ok (.ret (.str (mkS T1) tr))) { s with heap := h', toks := tk' } := by
    intro p' iO m' h' tk' tr S' hp'
    subst hp'
    refine h h' tk' tr ?_ (S'.lex st)
    obtain ⟨v1, v2, v3, v4, vn, vw, vp, mp, N'⟩ := S'.nw
    refine kept_end (fun r hr => (H' r hr).1) kp S'.fr ?_
    dsimp only [tkRows] at N'
    walk_at "mine still"
  refine for_ci (fun p m => ∃ ch tt, m = mpT C.lx I ch (.str (mkS []) tt) ∧ tok (cs.drop p) = (T1, T2)) (fun m => ∃ ch tt, m = mpT C.lx I ch (.str (mkS T1) tt) ∧ T2 = []) ?_ X₀ T₀ st (by walk_at "mine aok") O rd lq lI S hi ⟨_, _, rfl, hT⟩ (fun hq => nameX_L S.fr rfl hq) rfl rfl ?_ ?_
  · rintro m ⟨ch, tt, rfl, e⟩
    rw [List.drop_eq_nil_of_le (Nat.le_refl _)] at e
    cases e
    exact ⟨ch, tt, rfl, rfl⟩
  · rintro m h' tk' ⟨ch, tt, rfl, rfl⟩ S'
    dsimp only
    refine wpAny_execs_cons (wpAny_Return_some (nameX_L S'.fr rfl ?_))
    exact fin S' (by simp)
  · rintro p hp m h' tk' tc ⟨ch, tt, rfl, e⟩ S' Wk hWk
    obtain ⟨F₁, v1, v2, v3, v4, vn, vw, vp, mp, N₁⟩ := S'
    dsimp only [tkRows] at N₁
    clear F N S
    have hdp := drop_cons hp
    walk_at "mine steps"
    · -- a blank
      rename_i hw
      dsimp only
      refine hWk _ _ <| .inl ⟨p + 1, _, _, _, rfl, Nat.lt_succ_self p, hp, ⟨some (.str (mkS [cs[p]]) tc), tt, rfl, ?_⟩, ?_⟩
      · rw [hdp, tok_ws hw] at e; exact e
      · refine' St.of (by assumption) ?hm1 (by assumption) ?hm2
        case hm1 => walk_at "mine maps"
        case hm2 => walk_at "mine mems"
    · -- a quote
      (rename (_ == 34) = true => hq)
      have S₁ : St w g L C cs (W.listOf #[] npb) q I (p + 1) (ciObj q t) (mpT C.lx I (some (.str (mkS [cs[p]]) tc)) (.str (mkS []) tt)) h' := by
        refine' St.of (by assumption) ?hm1 (by assumption) ?hm2
        case hm1 => walk_at "mine maps"
        case hm2 => walk_at "mine mems"
      have e1 : tokS (· == 34) (cs.drop (p + 1)) = (T1, T2) := by
        rw [hdp, show cs[p] = 34 from beq_iff_eq.mp hq, tok_quote] at e; exact e
      refine for_ci (fun p m => ∃ ch tt acc, m = mpT C.lx I ch (.str (mkS acc) tt) ∧ (acc ++ (tokS (· == 34) (cs.drop p)).1, (tokS (· == 34) (cs.drop p)).2) = (T1, T2)) (fun m => ∃ ch tt, m = mpT C.lx I ch (.str (mkS T1) tt) ∧ T2 = []) ?_ X₀ T₀ st (by walk_at "mine aok") O rd lq lI S₁ hp ⟨_, _, [], rfl, ?_⟩ (fun hq => nameX_L S₁.fr rfl hq) rfl rfl ?_ ?_
      · rintro m ⟨ch, tt, acc, rfl, e⟩
        rw [List.drop_eq_nil_of_le (Nat.le_refl _)] at e
        simp only [tokS, List.append_nil, Prod.mk.injEq] at e
        obtain ⟨rfl, rfl⟩ := e
        exact ⟨ch, tt, rfl, rfl⟩
      · simp only [List.nil_append]; exact e1
      · rintro m h' tk' ⟨ch, tt, rfl, rfl⟩ S'
        dsimp only
        refine wpAny_execs_nil ?_
        dsimp only
        refine wpAny_execs_nil ?_
        exact hWk _ _ <| .inr ⟨_, _, _, rfl, ⟨ch, tt, rfl, rfl⟩, S'⟩
      · clear S₁ N₁ F₁
        rintro p₂ hp₂ m h₂ tk₂ tc₂ ⟨ch₂, tt₂, acc, rfl, e₂⟩ S₂ Wk₂ hWk₂
        have hacc : acc.length ≤ 100 := by
          have := congrArg (fun z => z.1.length) e₂
          simp only [List.length_append] at this
          omega
        obtain ⟨F₁, v1, v2, v3, v4, vn, vw, vp, mp, N₁⟩ := S₂
        dsimp only [tkRows] at N₁
        have hdp₂ := drop_cons hp₂
        walk_at "mine steps"
        · -- the word's end
          (rename (_ == 34) = true => hs₂)
          dsimp only
          obtain ⟨q1, q2⟩ := stop_step (stop := (· == 34)) hp₂ hs₂
          rw [q1, q2, List.append_nil] at e₂
          obtain ⟨e3, e4⟩ := pair_eq e₂
          rw [e3]
          refine' hWk₂ _ _ <| hWk _ _ <| fin (p' := p₂ + 1) (iO := ciObj q t) (St.of ?hF rfl ?hN ?hm2) ?hp
          case hF => assumption
          case hN => assumption
          case hm2 => walk_at "mine mems"
          case hp => rw [← e4, List.length_drop]; omega
        · -- an escape
          (rename (_ == 92) = true => hc₂)
          dsimp only
          obtain ⟨q1, q2⟩ := esc_step (stop := (· == 34)) rfl hp₂ (beq_iff_eq.mp hc₂)
          refine' hWk₂ _ _ <| .inl ⟨min cs.length (p₂ + 1 + 1), _, _, _, rfl, by omega, Nat.min_le_left _ _, ⟨_, _, acc ++ (cs.drop (p₂ + 1)).take 1, rfl, ?hj⟩, St.of ?hF ?hm1 ?hN ?hm2⟩
          case hF => assumption
          case hN => assumption
          case hm1 => first | exact mp_tok _ _ _ _ _ _ | exact mp_tok2 _ _ _ _ _ _ _
          case hm2 => walk_at "mine mems"
          case hj => rw [q1, q2, ← List.append_assoc] at e₂; exact e₂
        · -- a plain sign
          (rename (_ == 34) = false => hs₂)
          (rename (_ == 92) = false => hc₂)
          dsimp only
          obtain ⟨q1, q2⟩ := plain_step (stop := (· == 34)) hp₂ hs₂ (beq_eq_false_iff_ne.mp hc₂)
          refine' hWk₂ _ _ <| .inl ⟨p₂ + 1, _, _, _, rfl, by omega, hp₂, ⟨_, _, acc ++ [cs[p₂]], rfl, ?hj⟩, St.of ?hF ?hm1 ?hN ?hm2⟩
          case hF => assumption
          case hN => assumption
          case hm1 => first | exact mp_tok _ _ _ _ _ _ | exact mp_tok2 _ _ _ _ _ _ _
          case hm2 => walk_at "mine mems"
          case hj => rw [q1, q2, List.append_cons] at e₂; exact e₂
    · -- a word that opens with an escape
      (rename isWs _ = false => hw)
      (rename (_ == 34) = false => hq)
      (rename (_ == 92) = true => hcc)
      obtain ⟨tt₁, tc₁, S₁⟩ : ∃ tt₁ tc₁, St w g L C cs (W.listOf #[] npb) q I (min cs.length (p + 1 + 1)) (ciObj q t) (mpT C.lx I (some (.str (mkS ((cs.drop (p + 1)).take 1)) tc₁)) (.str (mkS ([] ++ (cs.drop (p + 1)).take 1)) tt₁)) _ := by
        refine' ⟨_, _, St.of ?hF ?hm1 ?hN ?hm2⟩
        case hF => assumption
        case hN => assumption
        case hm1 => exact mp_tok2 _ _ _ _ _ _ _
        case hm2 => walk_at "mine mems"
      have e1 : (([] ++ (cs.drop (p + 1)).take 1) ++ (tokS isWs (cs.drop (min cs.length (p + 1 + 1)))).1, (tokS isWs (cs.drop (min cs.length (p + 1 + 1)))).2) = (T1, T2) := by
        obtain ⟨q1, q2⟩ := esc_step (stop := isWs) rfl hp (beq_iff_eq.mp hcc)
        rw [hdp, tok_word hw (beq_eq_false_iff_ne.mp hq), ← hdp] at e
        rw [List.nil_append, ← q1, ← q2]; exact e
      refine for_ci (fun p m => ∃ ch tt acc, m = mpT C.lx I ch (.str (mkS acc) tt) ∧ (acc ++ (tokS isWs (cs.drop p)).1, (tokS isWs (cs.drop p)).2) = (T1, T2)) (fun m => ∃ ch tt, m = mpT C.lx I ch (.str (mkS T1) tt) ∧ T2 = []) ?_ X₀ T₀ st (by walk_at "mine aok") O (by assumption) lq lI S₁ (Nat.min_le_left _ _) ⟨_, _, _, rfl, e1⟩ (fun hq => nameX_L S₁.fr rfl hq) rfl rfl ?_ ?_
      · rintro m ⟨ch, tt, acc, rfl, e⟩
        rw [List.drop_eq_nil_of_le (Nat.le_refl _)] at e
        simp only [tokS, List.append_nil, Prod.mk.injEq] at e
        obtain ⟨rfl, rfl⟩ := e
        exact ⟨ch, tt, rfl, rfl⟩
      · rintro m h' tk' ⟨ch, tt, rfl, rfl⟩ S'
        dsimp only
        refine wpAny_execs_nil ?_
        dsimp only
        refine wpAny_execs_nil ?_
        exact hWk _ _ <| .inr ⟨_, _, _, rfl, ⟨ch, tt, rfl, rfl⟩, S'⟩
      · clear S₁ hw
        (rename (_ == 92) = _ => hcl); clear hcl
        (rename News _ _ _ _ => Nx); clear Nx
        (rename Fr _ _ _ _ => Fx); clear Fx
        rintro p₂ hp₂ m h₂ tk₂ tc₂ ⟨ch₂, tt₂, acc, rfl, e₂⟩ S₂ Wk₂ hWk₂
        have hacc : acc.length ≤ 100 := by
          have := congrArg (fun z => z.1.length) e₂
          simp only [List.length_append] at this
          omega
        obtain ⟨F₁, v1, v2, v3, v4, vn, vw, vp, mp, N₁⟩ := S₂
        dsimp only [tkRows] at N₁
        have hdp₂ := drop_cons hp₂
        walk_at "mine steps"
        · -- the word's end
          (rename isWs _ = true => hs₂)
          dsimp only
          obtain ⟨q1, q2⟩ := stop_step (stop := isWs) hp₂ hs₂
          rw [q1, q2, List.append_nil] at e₂
          obtain ⟨e3, e4⟩ := pair_eq e₂
          rw [e3]
          refine' hWk₂ _ _ <| hWk _ _ <| fin (p' := p₂ + 1) (iO := ciObj q t) (St.of ?hF rfl ?hN ?hm2) ?hp
          case hF => assumption
          case hN => assumption
          case hm2 => walk_at "mine mems"
          case hp => rw [← e4, List.length_drop]; omega
        · -- an escape
          (rename (_ == 92) = true => hc₂)
          dsimp only
          obtain ⟨q1, q2⟩ := esc_step (stop := isWs) rfl hp₂ (beq_iff_eq.mp hc₂)
          refine' hWk₂ _ _ <| .inl ⟨min cs.length (p₂ + 1 + 1), _, _, _, rfl, by omega, Nat.min_le_left _ _, ⟨_, _, acc ++ (cs.drop (p₂ + 1)).take 1, rfl, ?hj⟩, St.of ?hF ?hm1 ?hN ?hm2⟩
          case hF => assumption
          case hN => assumption
          case hm1 => first | exact mp_tok _ _ _ _ _ _ | exact mp_tok2 _ _ _ _ _ _ _
          case hm2 => walk_at "mine mems"
          case hj => rw [q1, q2, ← List.append_assoc] at e₂; exact e₂
        · -- a plain sign
          (rename isWs _ = false => hs₂)
          (rename (_ == 92) = false => hc₂)
          dsimp only
          obtain ⟨q1, q2⟩ := plain_step (stop := isWs) hp₂ hs₂ (beq_eq_false_iff_ne.mp hc₂)
          refine' hWk₂ _ _ <| .inl ⟨p₂ + 1, _, _, _, rfl, by omega, hp₂, ⟨_, _, acc ++ [cs[p₂]], rfl, ?hj⟩, St.of ?hF ?hm1 ?hN ?hm2⟩
          case hF => assumption
          case hN => assumption
          case hm1 => first | exact mp_tok _ _ _ _ _ _ | exact mp_tok2 _ _ _ _ _ _ _
          case hm2 => walk_at "mine mems"
          case hj => rw [q1, q2, List.append_cons] at e₂; exact e₂
    · -- a word that opens with a plain sign
      (rename isWs _ = false => hw)
      (rename (_ == 34) = false => hq)
      (rename (_ == 92) = false => hcc)
      obtain ⟨tt₁, S₁⟩ : ∃ tt₁, St w g L C cs (W.listOf #[] npb) q I (p + 1) (ciObj q t) (mpT C.lx I (some (.str (mkS [cs[p]]) tc)) (.str (mkS ([] ++ [cs[p]])) tt₁)) _ := by
        refine' ⟨_, St.of ?hF ?hm1 ?hN ?hm2⟩
        case hF => assumption
        case hN => assumption
        case hm1 => exact mp_tok _ _ _ _ _ _
        case hm2 => walk_at "mine mems"
      have e1 : (([] ++ [cs[p]]) ++ (tokS isWs (cs.drop (p + 1))).1, (tokS isWs (cs.drop (p + 1))).2) = (T1, T2) := by
        obtain ⟨q1, q2⟩ := plain_step (stop := isWs) hp hw (beq_eq_false_iff_ne.mp hcc)
        rw [hdp, tok_word hw (beq_eq_false_iff_ne.mp hq), ← hdp] at e
        rw [List.nil_append, List.singleton_append, ← q1, ← q2]; exact e
      refine for_ci (fun p m => ∃ ch tt acc, m = mpT C.lx I ch (.str (mkS acc) tt) ∧ (acc ++ (tokS isWs (cs.drop p)).1, (tokS isWs (cs.drop p)).2) = (T1, T2)) (fun m => ∃ ch tt, m = mpT C.lx I ch (.str (mkS T1) tt) ∧ T2 = []) ?_ X₀ T₀ st (by walk_at "mine aok") O (by assumption) lq lI S₁ hp ⟨_, _, _, rfl, e1⟩ (fun hq => nameX_L S₁.fr rfl hq) rfl rfl ?_ ?_
      · rintro m ⟨ch, tt, acc, rfl, e⟩
        rw [List.drop_eq_nil_of_le (Nat.le_refl _)] at e
        simp only [tokS, List.append_nil, Prod.mk.injEq] at e
        obtain ⟨rfl, rfl⟩ := e
        exact ⟨ch, tt, rfl, rfl⟩
      · rintro m h' tk' ⟨ch, tt, rfl, rfl⟩ S'
        dsimp only
        refine wpAny_execs_nil ?_
        dsimp only
        refine wpAny_execs_nil ?_
        exact hWk _ _ <| .inr ⟨_, _, _, rfl, ⟨ch, tt, rfl, rfl⟩, S'⟩
      · clear S₁ hw
        (rename (_ == 92) = _ => hcl); clear hcl
        (rename News _ _ _ _ => Nx); clear Nx
        (rename Fr _ _ _ _ => Fx); clear Fx
        rintro p₂ hp₂ m h₂ tk₂ tc₂ ⟨ch₂, tt₂, acc, rfl, e₂⟩ S₂ Wk₂ hWk₂
        have hacc : acc.length ≤ 100 := by
          have := congrArg (fun z => z.1.length) e₂
          simp only [List.length_append] at this
          omega
        obtain ⟨F₁, v1, v2, v3, v4, vn, vw, vp, mp, N₁⟩ := S₂
        dsimp only [tkRows] at N₁
        have hdp₂ := drop_cons hp₂
        walk_at "mine steps"
        · -- the word's end
          (rename isWs _ = true => hs₂)
          dsimp only
          obtain ⟨q1, q2⟩ := stop_step (stop := isWs) hp₂ hs₂
          rw [q1, q2, List.append_nil] at e₂
          obtain ⟨e3, e4⟩ := pair_eq e₂
          rw [e3]
          refine' hWk₂ _ _ <| hWk _ _ <| fin (p' := p₂ + 1) (iO := ciObj q t) (St.of ?hF rfl ?hN ?hm2) ?hp
          case hF => assumption
          case hN => assumption
          case hm2 => walk_at "mine mems"
          case hp => rw [← e4, List.length_drop]; omega
        · -- an escape
          (rename (_ == 92) = true => hc₂)
          dsimp only
          obtain ⟨q1, q2⟩ := esc_step (stop := isWs) rfl hp₂ (beq_iff_eq.mp hc₂)
          refine' hWk₂ _ _ <| .inl ⟨min cs.length (p₂ + 1 + 1), _, _, _, rfl, by omega, Nat.min_le_left _ _, ⟨_, _, acc ++ (cs.drop (p₂ + 1)).take 1, rfl, ?hj⟩, St.of ?hF ?hm1 ?hN ?hm2⟩
          case hF => assumption
          case hN => assumption
          case hm1 => first | exact mp_tok _ _ _ _ _ _ | exact mp_tok2 _ _ _ _ _ _ _
          case hm2 => walk_at "mine mems"
          case hj => rw [q1, q2, ← List.append_assoc] at e₂; exact e₂
        · -- a plain sign
          (rename isWs _ = false => hs₂)
          (rename (_ == 92) = false => hc₂)
          dsimp only
          obtain ⟨q1, q2⟩ := plain_step (stop := isWs) hp₂ hs₂ (beq_eq_false_iff_ne.mp hc₂)
          refine' hWk₂ _ _ <| .inl ⟨p₂ + 1, _, _, _, rfl, by omega, hp₂, ⟨_, _, acc ++ [cs[p₂]], rfl, ?hj⟩, St.of ?hF ?hm1 ?hN ?hm2⟩
          case hF => assumption
          case hN => assumption
          case hm1 => first | exact mp_tok _ _ _ _ _ _ | exact mp_tok2 _ _ _ _ _ _ _
          case hm2 => walk_at "mine mems"
          case hj => rw [q1, q2, List.append_cons] at e₂; exact e₂
theorem off_10 : True := by
  w_top off
  trivial
section
variable {prog : Program} {w : World} {A : Around} {E : Value → Shared → Prop} {s : Shared} {g : Heap} {L : Addr} {m : Str → Option Value} {news news' : List (Addr × Obj)}
theorem truthy_M {l : Addr} {its : List Value} {n : Nat} {Q : Bool → Shared → Prop} (N : News g L s.heap news) (hm : (l, W.listOf its.toArray n) ∈ news) (hz : its.length ≤ 100000)
    (h : Q (!its.isEmpty) { s with toks := s.toks + 1 + 1 }) : wpAny (model prog w) A (truthy (.ref l)) Q E s :=
  wpAny_truthy_list (N.isList hm) (by simp only [List.size_toArray]; omega) (by simpa using h)
theorem pop0_M {l : Addr} {v : Value} {its : List Value} {n : Nat} {u : Tok} {Q : Value → Shared → Prop} (F : Fr g L s.heap m) (N : News g L s.heap news)
    (U : Upd l (W.listOf (v :: its).toArray n) (W.listOf its.toArray (n + 1)) news news') (hz : its.length ≤ 100000)
    (h : ∀ h', Fr g L h' m → News g L h' news' → Q v { s with heap := h' }) : wpAny (model prog w) A (call (.builtin "list.pop") [.ref l, .int 0 u]) Q E s := by
  obtain ⟨pre, post, rfl, rfl, a, b⟩ := U.split
  have z := N (l, W.listOf (v :: its).toArray n) (List.mem_append.mpr (.inr (.head _)))
  have hT : s.TypeIs (.ref l) "list" := ⟨_, z.1, rfl⟩
  refine call_meets PySem.F.slot_list_pop hT PySem.F.entry_list_pop (PySem.F.args_list_pop_2 _ _) (PySem.MeetsSeq.list_pop_at l (v :: its).toArray n 0 u 0 v (by decide) (by simp [seqIndex?]) (by simp) (by simp [sizeLine_eq]; omega)) ⟨z.1, ?_⟩
  have e : (Obj.mapSeq fun xs => xs.eraseIdxIfInBounds 0) (W.listOf (v :: its).toArray n) = W.listOf its.toArray (n + 1) := by
    simp [Obj.mapSeq, Array.eraseIdxIfInBounds]
  obtain ⟨F', N'⟩ := news_upd (f := Obj.mapSeq fun xs => xs.eraseIdxIfInBounds 0) F N a b e rfl
  exact h _ F' N'
end
local macro_rules | `(tactic| walk_at "truthy ref") => `(tactic| (k_here; k_dflt (refine' truthy_M ?k1 ?k2 ?k3 ?_; (case k1 => k_asm); (case k2 => k_mem); (case k3 => (simp only [List.length_cons, List.length_nil, List.length_append]; omega)); k_whole); (try dsimp only [List.isEmpty_cons, List.isEmpty_nil, Bool.not_false, Bool.not_true])))
local macro_rules | `(tactic| walk_at "call builtin:list.pop") => `(tactic| (k_here; k_dflt (refine' pop0_M ?k1 ?k2 ?k3 ?k4 ?_; (case k1 => k_asm); (case k2 => k_asm); (case k3 => k_upd); (case k4 => omega); k_whole); intro h' F' N'; (try k_sweep)))
theorem off_11 : True := by
  w_top off
  trivial
theorem push_spec {w : World} {A : Around} {s : Shared} {g₀ : Heap} {mg mb : Str → Option Value} {p : Program} {loose : List Str} {mean : ExcName → Option Value} {R : Result → Shared → Prop}
    {cs : List Nat} {C : Cfg} {i npb : Nat} {vs : List Value} {v : Value} (hvs : vs.length ≤ 1000)
    (X₀ : (hd.heap_39 w.params).In g₀) (T₀ : Top p loose mean mg mb g₀) (hs : g₀.StaysIn s.heap) (hA : AOk 440 A) (O : C.Ord) (hx : LexAt w g₀ s.heap C cs i)
    (Hp : Has g₀ s.heap [(C.pb, W.listOf vs.toArray npb)])
    (h : ∀ h' tk n', KeptH [C.pb] s.heap h' → h'.get? C.pb = some (W.listOf (vs ++ [v]).toArray n') → R (.ok (.ret .none)) { s with heap := h', toks := tk }) :
    codeAny (model pr w) A (.call (.ref 49) ⟨[.ref C.lx, v], []⟩) R s := by
  obtain ⟨t1, t2, t3, t4, tn, tw, tp, np, H⟩ := hx
  have H' : Has g₀ s.heap [(C.lx, instObj 52 C.dl), (C.dl, dictOf (lexD w t1 t2 t3 t4 (1 + ((cs.take i).count 10 : Nat)) tn (.ref C.src) tw C.pb) 4), (C.pb, W.listOf vs.toArray npb)] :=
    .cons (H _ (.head _)).1 (H _ (.head _)).2 (.cons (H _ (.tail _ (.head _))).1 (H _ (.tail _ (.head _))).2 Hp)
  clear H Hp
  obtain ⟨o1, o2, o3, o4, o5, o6, o7, o8, o9⟩ := O
  replace o8 := ltN o8; replace o9 := ltN o9
  have hsz : vs.toArray.size ≤ 1000 := by simpa using hvs
  walk_at "mine enter"
  walk_at "mine steps"
  (rename News _ _ _ _ => N₁); (rename Fr _ _ _ _ => F₁)
  dsimp only
  rw [List.push_toArray] at N₁
  exact h _ _ _ (kept_end (fun q hq => (H' q hq).1) (by assumption) F₁ (by walk_at "mine still")) (News.get N₁ (by k_mem))

theorem pop_spec {w : World} {A : Around} {s : Shared} {g₀ : Heap} {mg mb : Str → Option Value} {p : Program} {loose : List Str} {mean : ExcName → Option Value} {R : Result → Shared → Prop}
    {cs : List Nat} {C : Cfg} {i npb : Nat} {vs : List Value} {v : Value} (hvs : vs.length ≤ 1000)
    (X₀ : (hd.heap_39 w.params).In g₀) (T₀ : Top p loose mean mg mb g₀) (hs : g₀.StaysIn s.heap) (hA : AOk 440 A) (O : C.Ord) (hx : LexAt w g₀ s.heap C cs i)
    (Hp : Has g₀ s.heap [(C.pb, W.listOf (v :: vs).toArray npb)])
    (h : ∀ h' tk n', KeptH [C.pb] s.heap h' → h'.get? C.pb = some (W.listOf vs.toArray n') → R (.ok (.ret v)) { s with heap := h', toks := tk }) :
    codeAny (model pr w) A (.call (.ref 42) ⟨[.ref C.lx], []⟩) R s := by
  obtain ⟨t1, t2, t3, t4, tn, tw, tp, np, H⟩ := hx
  have H' : Has g₀ s.heap [(C.lx, instObj 52 C.dl), (C.dl, dictOf (lexD w t1 t2 t3 t4 (1 + ((cs.take i).count 10 : Nat)) tn (.ref C.src) tw C.pb) 4), (C.pb, W.listOf (v :: vs).toArray npb)] :=
    .cons (H _ (.head _)).1 (H _ (.head _)).2 (.cons (H _ (.tail _ (.head _))).1 (H _ (.tail _ (.head _))).2 Hp)
  clear H Hp
  obtain ⟨o1, o2, o3, o4, o5, o6, o7, o8, o9⟩ := O
  replace o8 := ltN o8; replace o9 := ltN o9
  walk_at "mine enter"
  walk_at "mine steps"
  (rename News _ _ _ _ => N₁); (rename Fr _ _ _ _ => F₁)
  dsimp only
  exact h _ _ _ (kept_end (fun q hq => (H' q hq).1) (by assumption) F₁ (by walk_at "mine still")) (News.get N₁ (by k_mem))
theorem off_12 : True := by
  w_top off
  trivial
/-- what a turn of a while must come to -/
def WStep (g : Heap) (L : Addr) (s : Shared) (J : Nat → (Str → Option Value) → List (Addr × Obj) → Prop) (Q : Flow → Shared → Prop) (n : Nat) (f : Flow) (s₃ : Shared) : Prop := match f with
  | .next | .cont => ∃ h' tk m₂ news₂ n', s₃ = { s with heap := h', toks := tk } ∧ Fr g L h' m₂ ∧ News g L h' news₂ ∧ n' < n ∧ J n' m₂ news₂
  | .brk => Q .next s₃
  | .ret v => Q (.ret v) s₃

section
variable {w : World} {A : Around} {Q : Flow → Shared → Prop} {s : Shared} {env : Env} {g : Heap} {L : Addr}
theorem While_M {test : Expr} {body : List Stmt} {pos : Pos} {m : Str → Option Value} {news : List (Addr × Obj)} (J : Nat → (Str → Option Value) → List (Addr × Obj) → Prop) {n₀ : Nat}
    (F : Fr g L s.heap m) (N : News g L s.heap news) (hJ : J n₀ m news)
    (turn : ∀ n m₁ news₁ h₁ tk₁, Fr g L h₁ m₁ → News g L h₁ news₁ → J n m₁ news₁ → ∀ Wk : Flow → Shared → Prop, (∀ f s₃, WStep g L s J Q n f s₃ → Wk f s₃) →
      wpAny (model pr w) A (isTrue test env (eval test env)) (fun b s₂ =>
        if b = true then wpAny (model pr w) A (execs body env) Wk (fun _ _ => False) s₂ else Q .next s₂) (fun _ _ => False) { s with heap := h₁, toks := tk₁ }) :
    wpAny (model pr w) A (exec (.While test body [] pos) env) Q (fun _ _ => False) s := by
  refine wpAny_While (codeAny_whileLoop (fun n s' => ∃ h₁ tk₁ m₁ news₁, s' = { s with heap := h₁, toks := tk₁ } ∧ Fr g L h₁ m₁ ∧ News g L h₁ news₁ ∧ J n m₁ news₁) ?_ n₀ ⟨s.heap, s.toks, m, news, rfl, F, N, hJ⟩)
  rintro n s' ⟨h₁, tk₁, m₁, news₁, rfl, F₁, N₁, J₁⟩
  refine wpAny_mono (turn n m₁ news₁ h₁ tk₁ F₁ N₁ J₁ _ fun _ _ z => z) (fun b s₂ h₂ => ?_) fun _ _ z => z.elim
  cases b with
  | false =>
    simp only [Bool.false_eq_true, if_false] at h₂ ⊢
    exact wpAny_execs_nil h₂
  | true =>
    simp only [if_true] at h₂ ⊢
    refine wpAny_mono h₂ (fun f s₃ h₃ => ?_) fun _ _ z => z.elim
    have fin : (∃ h' tk m₂ news₂ n', s₃ = { s with heap := h', toks := tk } ∧ Fr g L h' m₂ ∧ News g L h' news₂ ∧ n' < n ∧ J n' m₂ news₂) →
        ∃ n', n' < n ∧ ∃ h₁ tk₁ m₁ news₁, s₃ = { s with heap := h₁, toks := tk₁ } ∧ Fr g L h₁ m₁ ∧ News g L h₁ news₁ ∧ J n' m₁ news₁ := by
      rintro ⟨h', tk, m₂, news₂, n', rfl, F₂, N₂, hn, J₂⟩
      exact ⟨n', hn, h', tk, m₂, news₂, rfl, F₂, N₂, J₂⟩
    cases f with
    | next => exact fin h₃
    | cont => exact fin h₃
    | brk => exact h₃
    | ret v => exact h₃
end

section
variable {prog : Program} {w : World} {A : Around} {E : Value → Shared → Prop} {s : Shared}
/-- a sign of a text -/
theorem item_S {value slice : Expr} {cs : List Nat} {a : Nat} {t u : Tok} {Q : Value → Shared → Prop} (ha : a < cs.length) (hz : cs.length ≤ 100000) (h : Q (.str (mkS [cs[a]]) s.toks) { s with toks := s.toks + 1 })
    (hs : subscripted slice false (.str (mkS cs) t) (.int (a : Int) u) = operate [.str (mkS cs) t, .int (a : Int) u] (getItem (.str (mkS cs) t) (.int (a : Int) u)))
    (ht : ∀ r, letTemporaryGo value (.str (mkS cs) t) r = pure ()) :
    wpAny (model prog w) A (subscriptTail value slice (.str (mkS cs) t) (.int (a : Int) u)) Q E s := by
  have hl : (mkS cs).length = cs.length := mkS_length cs
  refine item_str (by unfold fitsSsize; simp; omega) (by rw [hl]; omega) (by rw [hl]; omega) (fun _ => ?_) hs ht
  have e : Txt.item (mkS cs) (a : Int) = mkS [cs[a]] := by
    rw [PyProof.Rows.item_meets (n := cs[a]) (by omega) (by simp [ha])]
  rw [e]; exact h
end
/-- a list of the ledger of which only this is known -/
theorem mem_ne {rows : List (Addr × Obj)} {D : Addr} (h : ∀ p ∈ rows, D < p.1) : ∀ p ∈ rows, p.1 ≠ D := fun p hp => Nat.ne_of_gt (h p hp)
local macro_rules | `(tactic| k_all) => `(tactic| assumption)
local macro_rules | `(tactic| walk_at "eval Name") => `(tactic| (k_here; k_dflt (refine' nameX_L ?k1 ?k2 ?_; (case k1 => k_asm); (case k2 => assumption); k_whole)))
local macro_rules | `(tactic| walk_at "loadName") => `(tactic| (k_here; k_dflt (refine' wpAny_loadName_local ?h1 ?h2 (Fr.ns ?h3) ?h4 ?_; (case h1 => exact rfl); (case h2 => exact rfl); (case h3 => k_asm); (case h4 => assumption); k_whole)))
local macro_rules | `(tactic| walk_at "subscriptTail Name Name str int") => `(tactic| (k_here; (with_unfolding_all refine' item_S ?k1 ?k2 ?_ ?k3 ?k4; (case k1 => omega); (case k2 => omega); (case k3 => with_unfolding_all rfl); (case k4 => (intro _; with_unfolding_all rfl)); k_whole)))
theorem off_13 : True := by
  w_top off
  trivial
/-- the signs of a text from place p on: the sign, bare or escaped, the place behind it -/
def sgn : List Nat → Nat → List (List Nat × Bool × Nat)
  | [], _ => []
  | [c], p => if c = 92 then [([], false, p + 1)] else [([c], true, p + 1)]
  | c :: d :: r, p => if c = 92 then ([d], false, p + 2) :: sgn r (p + 2) else ([c], true, p + 1) :: sgn (d :: r) (p + 1)
theorem sgn_plain {c : Nat} {r : List Nat} {p : Nat} (h : c ≠ 92) : sgn (c :: r) p = ([c], true, p + 1) :: sgn r (p + 1) := by
  cases r <;> simp [sgn, h]
theorem sgn_esc {cs : List Nat} {p : Nat} (hp : p < cs.length) (h : cs[p] = 92) : sgn (cs.drop p) p = ((cs.drop (p + 1)).take 1, false, min (p + 2) cs.length) :: sgn (cs.drop (p + 2)) (p + 2) := by
  rw [List.drop_eq_getElem_cons hp, h]
  by_cases h2 : p + 1 < cs.length
  · rw [List.drop_eq_getElem_cons h2, Nat.min_eq_left (by omega)]
    simp only [sgn, if_true, List.take_succ_cons, List.take_zero]
  · rw [List.drop_eq_nil_of_le (show cs.length ≤ p + 1 by omega), Nat.min_eq_right (by omega), List.drop_eq_nil_of_le (show cs.length ≤ p + 2 by omega)]
    simp [sgn]; omega

/-- the list's items are the signs' tuples, and they stand in the ledger -/
def SignsAre (rows : List (Addr × Obj)) (vs : List Value) (ss : List (List Nat × Bool × Nat)) : Prop :=
  vs.length = ss.length ∧ ∀ (j : Nat) (hj : j < vs.length) (hj' : j < ss.length), ∃ a t1 t3 n, vs[j] = .ref a ∧ (a, tup [.str (mkS ss[j].1) t1, .bool ss[j].2.1, .int (ss[j].2.2 : Int) t3] n) ∈ rows
theorem SignsAre.nil {rows : List (Addr × Obj)} : SignsAre rows [] [] := ⟨rfl, fun j hj => absurd hj (Nat.not_lt_zero j)⟩
theorem SignsAre.push {rows : List (Addr × Obj)} {vs : List Value} {ss : List (List Nat × Bool × Nat)} (S : SignsAre rows vs ss) {a : Addr} {c : List Nat} {b : Bool} {e t1 t3 n : Nat} :
    SignsAre ((a, tup [.str (mkS c) t1, .bool b, .int (e : Int) t3] n) :: rows) (vs ++ [.ref a]) (ss ++ [(c, b, e)]) := by
  refine ⟨by simp [S.1], fun j hj hj' => ?_⟩
  by_cases h : j < vs.length
  · obtain ⟨a', t1', t3', n', h1, h2⟩ := S.2 j h (S.1 ▸ h)
    exact ⟨a', t1', t3', n', by rw [List.getElem_append_left h]; exact h1, by rw [List.getElem_append_left (S.1 ▸ h)]; exact .tail _ h2⟩
  · have hj2 : j = vs.length := by simp at hj; omega
    subst hj2
    refine ⟨a, t1, t3, n, by simp, ?_⟩
    have e2 : (ss ++ [(c, b, e)])[vs.length]'hj' = (c, b, e) := by
      simp [S.1]
    rw [e2]; exact .head _

theorem News.swap {g h : Heap} {L : Addr} {a b : Addr × Obj} {rows : List (Addr × Obj)} (N : News g L h (a :: b :: rows)) : News g L h (b :: a :: rows) := fun q hq => by
  rcases List.mem_cons.mp hq with rfl | hq
  · exact N _ (.tail _ (.head _))
  · rcases List.mem_cons.mp hq with rfl | hq
    · exact N _ (.head _)
    · exact N _ (.tail _ (.tail _ hq))

theorem signs_spec {w : World} {A : Around} {s : Shared} {g₀ : Heap} {mg mb : Str → Option Value} {p : Program} {loose : List Str} {mean : ExcName → Option Value} {R : Result → Shared → Prop}
    {cs : List Nat} {tt : Nat} (htx : cs.length ≤ 100)
    (X₀ : (hd.heap_39 w.params).In g₀) (T₀ : Top p loose mean mg mb g₀) (hs : g₀.StaysIn s.heap) (hA : AOk 440 A)
    (h : ∀ h' tk D vs n rows, KeptH [] s.heap h' → Has g₀ h' ((D, W.listOf vs.toArray n) :: rows) → s.heap.objs.size ≤ D → (∀ q ∈ rows, D < q.1) → SignsAre rows vs (sgn cs 0) → R (.ok (.ret (.ref D))) { s with heap := h', toks := tk }) :
    codeAny (model pr w) A (.call (.ref 70) ⟨[.str (mkS cs) tt], []⟩) R s := by
  have htx' : (mkS cs).length ≤ 100 := by rw [mkS_length]; exact htx
  have H : Has g₀ s.heap [] := .nil
  walk_at "mine enter"
  walk_at "mine steps"
  rename_i dp fr gd un hdp hun g L h₀ st X T kp l1 l2 tka D hb l3 l4 hc he F N
  refine While_M (fun n m news => ∃ a vs nn rows ta tx ss, n = cs.length + 2 - a ∧ a ≤ cs.length + 1 ∧ m (Str.ofString "text") = some (.str (mkS cs) tx) ∧ m (Str.ofString "signs") = some (.ref D) ∧ m (Str.ofString "at") = some (.int ((a : Nat) : Int) ta) ∧
    news = (D, W.listOf vs.toArray nn) :: rows ∧ (∀ q ∈ rows, D < q.1) ∧ vs.length ≤ a ∧ SignsAre rows vs ss ∧ ss ++ sgn (cs.drop a) a = sgn cs 0) F N ⟨0, [], 0, [], _, _, [], rfl, by omega, rfl, rfl, rfl, rfl, (fun q hq => nomatch hq), Nat.le_refl _, SignsAre.nil, rfl⟩ ?_
  rintro n m₁ news₁ h₁ tk₁ F₁ N₁ ⟨a, vs, nn, rows, ta, tx, ss, rfl, ha, hm1, hm2, hm3, rfl, hrows, hvl, hS, hE⟩ Wk hWk
  have hne := mem_ne hrows
  have hlen : (mkS cs).length = cs.length := mkS_length cs
  clear F N
  walk_at "mine steps"
  · -- an escape
    (rename News _ _ _ _ => N₂); (rename Fr _ _ _ _ => F₂)
    (rename (_ == 92) = true => hc₂)
    (rename ((_ : Int) < _) => hlt)
    have halt : a < cs.length := by rw [hlen] at hlt; omega
    have e1 : Txt.slice (mkS cs) (some ((a : Int) + 1)) (some ((a : Int) + 2)) = mkS ((cs.drop (a + 1)).take 1) := by
      have := slice_nat cs (a := a + 1) (b := a + 2) (by omega) (by omega)
      rw [show a + 2 - (a + 1) = 1 by omega] at this
      exact this
    have e2 : (if ((mkS cs).length : Int) < (a : Int) + 2 then ((mkS cs).length : Int) else (a : Int) + 2) = ((min (a + 2) cs.length : Nat) : Int) := by
      rw [hlen]; split <;> omega
    rw [e1, e2, List.push_toArray] at N₂
    refine hWk _ _ ⟨_, _, _, _, cs.length + 2 - (a + 2), rfl, F₂, News.swap N₂, by omega, a + 2, _, _, _, _, _, ss ++ [((cs.drop (a + 1)).take 1, false, min (a + 2) cs.length)], rfl, by omega, hm1, hm2, rfl, rfl, ?_, by simp; omega, SignsAre.push hS, ?_⟩
    · refine List.forall_mem_cons.mpr ⟨ltN (by omega), hrows⟩
    · rw [List.append_assoc, List.singleton_append, ← sgn_esc halt (beq_iff_eq.mp hc₂)]; exact hE
  · -- a bare sign
    (rename News _ _ _ _ => N₂); (rename Fr _ _ _ _ => F₂)
    (rename (_ == 92) = false => hc₂)
    (rename ((_ : Int) < _) => hlt)
    have halt : a < cs.length := by rw [hlen] at hlt; omega
    rw [List.push_toArray] at N₂
    refine hWk _ _ ⟨_, _, _, _, cs.length + 2 - (a + 1), rfl, F₂, News.swap N₂, by omega, a + 1, _, _, _, _, _, ss ++ [([cs[a]], true, a + 1)], rfl, by omega, hm1, hm2, rfl, rfl, ?_, by simp; omega, SignsAre.push hS, ?_⟩
    · refine List.forall_mem_cons.mpr ⟨ltN (by omega), hrows⟩
    · rw [List.append_assoc, List.singleton_append, ← sgn_plain (beq_eq_false_iff_ne.mp hc₂), ← List.drop_eq_getElem_cons halt]; exact hE
  · -- the end
    (rename ¬ ((_ : Int) < _) => hlt)
    have hge : cs.length ≤ a := by rw [hlen] at hlt; omega
    rw [List.drop_eq_nil_of_le hge] at hE
    simp only [sgn, List.append_nil] at hE
    subst hE
    dsimp only
    exact h _ _ D vs nn rows (kept_end (fun q hq => (H q hq).1) kp F₁ (fun q hq => nomatch hq)) (Has.news N₁ st fun q hq => hq) (Nat.le_of_lt (Nat.lt_of_le_of_lt l2 l4)) hrows hS
theorem off_14 : True := by
  w_top off
  trivial
theorem Str_join_empty : ∀ zs : List (List Nat), Str.join (mkS []) (zs.map mkS) = mkS zs.flatten
  | [] => rfl
  | [z] => by simp [Str.join]
  | z :: y :: r => by
    have ih := Str_join_empty (y :: r)
    simp only [List.map_cons] at ih
    show mkS z ++ mkS [] ++ Str.join (mkS []) (mkS y :: r.map mkS) = _
    rw [ih, mkS_append, mkS_append]
    simp
theorem Txt_join_empty (zs : List (List Nat)) : Txt.join (Str.ofString "") (zs.map mkS) = mkS zs.flatten := by
  rw [eq_of_beq (join_plain_closes (Str.ofString "") (zs.map mkS)), empty_eq, Str_join_empty]

section
variable {w : World} {A : Around} {s : Shared} {E : Value → Shared → Prop} {g₀ g : Heap} {L : Addr} {m mg mb : Str → Option Value} {p : Program} {loose : List Str} {mean : ExcName → Option Value} {news : List (Addr × Obj)}

/-- a call of _law_is from a frame -/
theorem is_M {one som : Addr} {c : Str} {b : Bool} {e : Int} {t1 t3 n1 n2 : Nat} {vs : List Value} {ys : List Str} {Q : Value → Shared → Prop} (X : (hd.heap_39 w.params).In g) (T : Top p loose mean mg mb g) (hA : AOk 520 A)
    (F : Fr g L s.heap m) (N : News g L s.heap news) (h1 : (one, tup [.str c t1, .bool b, .int e t3] n1) ∈ news) (h2 : (som, W.listOf vs.toArray n2) ∈ news) (hv : StrsAre vs ys)
    (h : ∀ h' tk, Fr g L h' m → News g L h' news → Q (.bool (b && ys.any (· == c))) { s with heap := h', toks := tk }) :
    wpAny (model pr w) A (call (.ref 77) [.ref one, .ref som]) Q E s := by
  refine wpAny_call (is_spec X T F.keep hA (.cons (N _ h1).1 (N _ h1).2.2 (.cons (N _ h2).1 (N _ h2).2.2 .nil)) hv ?_)
  intro h' tk k
  exact h h' tk (k.fr0 F) (k.news0 N)

theorem join_M {D : Addr} {vs : List Value} {zs : List (List Nat)} {n : Nat} {t : Tok} {Q : Value → Shared → Prop} (N : News g L s.heap news) (hm : (D, W.listOf vs.toArray n) ∈ news) (hv : StrsAre vs (zs.map mkS)) (hz : zs.flatten.length ≤ 1000000)
    (h : ∀ t' k, Q (.str (mkS zs.flatten) t') { s with toks := k }) : wpAny (model pr w) A (call (.builtin "str.join") [.str (Str.ofString "") t, .ref D]) Q E s := by
  refine join_list (N.isList hm) (by simpa using hv) ?_ (fun t' k => ?_)
  · have e : ((zs.map mkS).map (·.length)).sum = zs.flatten.length := by
      rw [List.map_map, List.length_flatten]
      congr 1
    rw [e, empty_eq, mkS_length]
    simp only [List.length_nil, Nat.mul_zero]; omega
  · rw [Txt_join_empty]; exact h t' k

/-- a slice of a list of the ledger, its bounds in order -/
theorem slice_M {value slice : PySem.Expr} {l : Addr} {vs : List Value} {n a b : Nat} {t u : Tok} {Q : Value → Shared → Prop} (F : Fr g L s.heap m) (N : News g L s.heap news) (hm : (l, W.listOf vs.toArray n) ∈ news) (hab : a ≤ b) (hb : b ≤ vs.length) (hz : vs.length ≤ 100000)
    (h : ∀ D h', Fr g L h' m → News g L h' ((D, W.listOf ((vs.drop a).take (b - a)).toArray 0) :: news) → (∀ p ∈ news, p.1 < D) → Q (.ref D) { s with heap := h' })
    (hs : subscripted slice false (.ref l) (.ref s.heap.objs.size) = operate [.ref s.heap.objs.size, .ref l] (getItem (.ref l) (.ref s.heap.objs.size))) (ht : ∀ r, letTemporaryGo value (.ref l) r = pure ()) :
    wpAny (model pr w) A (subscriptTail value slice (.ref l) (.ref s.heap.objs.size)) Q E { s with heap := s.heap.push { cls := .type "slice", data := .fields #[.int (a : Int) t, .int (b : Int) u, .none] } } := by
  refine kmk_slice F N (N.isList hm) (.int _ _) (.int _ _) (fun D h' F' N' l1 => h D h' F' ?_ l1) hs ht (by simp [sizeLine_eq]; omega)
  rw [slicePick_run vs.toArray a b (by simpa using hb) hab] at N'
  exact N'
end

/-- a comprehension's source, once it is known -/
def CompAt (w : World) (A : Around) (E : Value → Shared → Prop) (env : Env) (scope : Scope) (cl : List (Str × Addr)) (x : Str) (elt : Expr) (Q : Value → Shared → Prop) (xv : Value) (s₁ : Shared) : Prop :=
  wpAny (model pr w) A (pyIter xv) (fun it s₂ => ∃ (Ff : Value → Value → Prop) (I : Addr) (fp wr : List Addr) (n : Nat) (P : Nat → Value → Prop) (St : Nat → Heap → Prop), it = .ref I ∧ Walks pr w A I fp wr n P St ∧ n ≤ sizeLine ∧ St 0 s₂.heap ∧ (∀ b ∈ fp, b < s₂.heap.objs.size) ∧
      QuietOnC pr w A env scope cl x [] elt wr P (fun _ => true) Ff s₂ ∧
      (∀ D h' tk ys (vs : List Value), s₂.heap.get? D = none → h'.IsList D ys → h'.PlainList D ys → vs.length = n → (∀ j v, vs[j]? = some v → P j v) → Paired Ff (vs.filter fun _ => true) ys.toList →
        (∀ b o, b ∉ wr → s₂.heap.get? b = some o → h'.get? b = some o) → Q (.ref D) { s₂ with heap := h', toks := tk })) E s₁

section
variable {w : World} {A : Around} {s : Shared} {E : Value → Shared → Prop} {env : Env} {scope : Scope} {cl : List (Str × Addr)} {x : Str} {elt : Expr} {Q : Value → Shared → Prop}
theorem comp_M {iter : Expr} {px pos : Pos} (hclos : closureFor scope env = pure cl) (hcell : ∀ y ∈ scope.names, y.2 ≠ .cell) (hkind : scope.kind = .function)
    (hnames : ∀ y ∈ scope.names, y.2 = .local → scope.names.lookup y.1 = some .local) (hx : scope.names.lookup x = some .local)
    (h : wpAny (model pr w) A (eval iter env) (CompAt w A E env scope cl x elt Q) E s)
    (hs : ∀ x, foldedSetIterable iter env x = pure x) :
    wpAny (model pr w) A (eval (.ListComp elt [⟨.Name x px, iter, [], 0⟩] scope pos) env) Q E s := by
  rw [eval_ListComp]
  refine wpAny_comprehension_free (use := none) rfl hs hclos hkind hnames (wpAny_mono h (fun xv s₁ h₁ => wpAny_mono h₁ (fun it s₂ h₂ => ?_) fun _ _ e => e) fun _ _ e => e)
  obtain ⟨Ff, I, fp, wr, n, P, St, rfl, W, hsz, hst, hfp, hq, hQ⟩ := h₂
  refine comp_block_walkC (RR := fun acc C => compPost (model pr w) A E none Q acc C) W hsz (fun _ => true) Ff hcell hkind hx hst hfp hq ?_
  intro D C h' tk m' ys vs hD hC hDC hn hl hpl hlen hP hF hk
  exact ⟨m', hn, fun h'' hs'' => hQ D h'' tk ys vs hD (hl.extBut hs''.extBut hDC) (hpl.extBut hs''.extBut hDC) hlen hP hF fun b o hbf e => hs''.extBut b o (by rintro rfl; rw [hC] at e; cases e) (hk b o hbf e)⟩

/-- the source is a list of the ledger -/
theorem compAt_M {g : Heap} {L l : Addr} {m : Str → Option Value} {news : List (Addr × Obj)} {vs : List Value} {n : Nat} (Ff : Value → Value → Prop) (hh : A.handled = none) (F : Fr g L s.heap m) (N : News g L s.heap news)
    (hm : (l, W.listOf vs.toArray n) ∈ news) (hz : vs.length ≤ 100000)
    (helt : ∀ C v s₃ m₃ E', v ∈ vs → s.heap.objs.size < C → s₃.heap.Ns C m₃ → m₃ x = some v → (∀ b o, s.heap.get? b = some o → s₃.heap.get? b = some o) →
      wpAny (model pr w) A (eval elt (compEnvC scope cl C env)) (fun y s₄ => Ff v y ∧ Keeps s₃ s₄) E' s₃)
    (hQ : ∀ D h' tk ys k, Fr g L h' m → News g L h' ((D, W.listOf (List.toArray ys) k) :: news) → (∀ q ∈ news, q.1 ≠ D) → Paired Ff vs ys → Q (.ref D) { s with heap := h', toks := tk }) :
    CompAt w A E env scope cl x elt Q (.ref l) s := by
  have hl := N.isList hm
  refine wpAny_pyIter_list hl ?_
  have hlt : l < s.heap.objs.size := Heap.lt_size (N _ hm).1
  refine ⟨Ff, s.heap.objs.size, [s.heap.objs.size, l], [s.heap.objs.size], vs.toArray.size, _, _, rfl, Walks.list hh _ l (Nat.ne_of_lt hlt) vs.toArray, by simp [sizeLine_eq]; omega, ⟨⟨_, Heap.get?_push_size _ rfl, rfl, rfl⟩, ?_⟩, ?_, ⟨?_, ?_⟩, ?_⟩
  · obtain ⟨o, ho, r⟩ := hl
    exact ⟨o, Heap.get?_push_of_some _ ho, r⟩
  · intro b hb
    simp only [List.mem_cons, List.not_mem_nil, or_false] at hb
    rw [Heap.size_push]
    rcases hb with rfl | rfl
    · exact Nat.lt_succ_self _
    · exact Nat.lt_succ_of_lt hlt
  · intro C i v s₃ m₃ E' _ _ _ _ _ _
    exact wpAny_pure ⟨rfl, s₃.heap, s₃.toks, rfl, fun _ _ e => e⟩
  · intro C i v s₃ m₃ E' hC hv _ hn hx' hk _
    refine helt C v s₃ m₃ E' ?_ (by rw [Heap.size_push] at hC; exact hC) hn hx' (fun b o e => hk b o ?_ (Heap.get?_push_of_some _ e))
    · have : vs[i]? = some v := by simpa using hv
      exact List.mem_of_getElem? this
    · simp only [List.mem_singleton]; exact Nat.ne_of_lt (Heap.lt_size e)
  · intro D h' tk ys vs' hD hli hpl hlen hP hF hk
    have hvs : vs' = vs := by
      apply List.ext_getElem?
      intro j
      by_cases hj : j < vs'.length
      · have h1 := hP j vs'[j] (List.getElem?_eq_getElem hj)
        rw [List.getElem?_eq_getElem hj]
        simpa using h1.symm
      · rw [List.getElem?_eq_none (by omega), List.getElem?_eq_none (by rw [hlen] at hj; simpa using hj)]
    rw [hvs, List.filter_eq_self.mpr (fun _ _ => rfl)] at hF
    have k0 : KeptH [] s.heap h' := fun b o e _ => hk b o (by simp only [List.mem_singleton]; exact Nat.ne_of_lt (Heap.lt_size e)) (Heap.get?_push_of_some _ e)
    have none_of : ∀ b o, s.heap.get? b = some o → b ≠ D := fun b o e q => by
      rw [q] at e; rw [Heap.get?_push_of_some _ e] at hD; cases hD
    obtain ⟨n', hpl⟩ := hpl
    have hys : ys = ys.toList.toArray := by simp
    rw [hys] at hpl
    refine hQ D h' tk ys.toList n' (k0.fr0 F) ?_ (fun q hq => none_of q.1 q.2 (N q hq).1) hF
    intro q hq
    rcases List.mem_cons.mp hq with rfl | hq
    · refine ⟨hpl, fun e => ?_, ?_⟩
      · obtain ⟨oL, es, ep, hL, _⟩ := F.ns
        exact none_of L oL hL e.symm
      · cases e : g.get? D with
        | none => rfl
        | some o => exact absurd rfl (none_of D o (F.keep D o e))
    · exact k0.news0 N q hq
end
/-- apart from each of these -/
def AllNe (d : Nat) : List (Addr × Obj) → Prop
  | [] => True
  | p :: r => @Ne Nat p.1 d ∧ AllNe d r
theorem allNe_of {d : Addr} : ∀ {l : List (Addr × Obj)}, (∀ p ∈ l, p.1 ≠ d) → AllNe d l
  | [], _ => trivial
  | p :: _, h => ⟨h p (.head _), allNe_of fun q hq => h q (.tail _ hq)⟩
theorem off_15 : True := by
  w_top off
  trivial
/-! the words of a text, by the plain lexer; the signs tell the same -/
abbrev Sign := List Nat × Bool × Nat
def bareIn (stop : Nat → Bool) (x : Sign) : Bool := x.2.1 && (match x.1 with | [c] => stop c | _ => false)

theorem tokS_rest (stop : Nat → Bool) : ∀ l : List Nat, (tokS stop l).2.length ≤ l.length
  | [] => by simp [tokS]
  | [c] => by
    simp only [tokS]
    split
    · simp
    · split <;> simp
  | c :: d :: r => by
    have h1 := tokS_rest stop r
    have h2 := tokS_rest stop (d :: r)
    simp only [tokS]
    split
    · simp
    · split
      · simp only [List.length_cons] at *; omega
      · simp only [List.length_cons] at *; omega
theorem tokS_rest_lt (stop : Nat → Bool) (c : Nat) (r : List Nat) : (tokS stop (c :: r)).2.length < (c :: r).length := by
  by_cases h : stop c = true
  · rw [tokS_stop h]; simp
  · have h' := eq_false_of_ne_true h
    by_cases h2 : c = 92
    · subst h2
      cases r with
      | nil => rw [tokS_esc_end h']; simp
      | cons d r => rw [tokS_esc h']; have := tokS_rest stop r; simp only [List.length_cons]; omega
    · rw [tokS_plain h' h2]; have := tokS_rest stop r; simp only [List.length_cons]; omega
theorem tok_rest_lt : ∀ l : List Nat, l.all isWs = false → (tok l).2.length < l.length
  | [], h => by simp at h
  | c :: r, h => by
    by_cases hw : isWs c = true
    · rw [tok_ws hw]
      have := tok_rest_lt r (by simpa [hw] using h)
      simp only [List.length_cons]; omega
    · have hw' := eq_false_of_ne_true hw
      by_cases hq : c = 34
      · subst hq
        rw [tok_quote]
        have := tokS_rest (· == 34) r
        simp only [List.length_cons]; omega
      · rw [tok_word hw' hq]; exact tokS_rest_lt isWs c r

/-- the words that are still to come, each with the place behind it; n: the text's length -/
def wl (n : Nat) (l : List Nat) : List (List Nat × Nat) :=
  if h : l.all isWs = false then ((tok l).1, n - (tok l).2.length) :: wl n (tok l).2 else []
termination_by l.length
decreasing_by exact tok_rest_lt l h
theorem wl_some {n : Nat} {l : List Nat} (h : l.all isWs = false) : wl n l = ((tok l).1, n - (tok l).2.length) :: wl n (tok l).2 := by
  rw [wl]; simp [h]
theorem wl_none {n : Nat} {l : List Nat} (h : l.all isWs = true) : wl n l = [] := by
  rw [wl]; simp [h]
theorem tok_none : ∀ {l : List Nat}, l.all isWs = true → tok l = ([], [])
  | [], _ => rfl
  | c :: r, h => by
    simp only [List.all_cons, Bool.and_eq_true] at h
    rw [tok_ws h.1]; exact tok_none h.2
theorem wl_ws {n c : Nat} {r : List Nat} (h : isWs c = true) : wl n (c :: r) = wl n r := by
  by_cases h2 : r.all isWs = true
  · rw [wl_none h2, wl_none (by simp [h, h2])]
  · have h2' := eq_false_of_ne_true h2
    rw [wl_some h2', wl_some (by simp [h, h2']), tok_ws h]
theorem wl_len (n : Nat) (l : List Nat) : (wl n l).length ≤ l.length := by
  by_cases h : l.all isWs = false
  · rw [wl_some h]
    have h1 := tok_rest_lt l h
    have h2 := wl_len n (tok l).2
    simp only [List.length_cons]; omega
  · rw [wl_none (eq_true_of_ne_false h)]; simp
termination_by l.length
decreasing_by exact tok_rest_lt l h

theorem sgn_nil {l : List Nat} {p : Nat} (h : sgn l p = []) : l = [] := by
  match l with
  | [] => rfl
  | [c] => simp only [sgn] at h; split at h <;> simp at h
  | c :: d :: r => simp only [sgn] at h; split at h <;> simp at h
theorem sgn_last : ∀ (l : List Nat) (p : Nat) (h : sgn l p ≠ []), ((sgn l p).getLast h).2.2 = p + l.length
  | [], _, h => absurd rfl h
  | [c], p, h => by
    by_cases hc : c = 92
    · simp [sgn, hc]
    · simp [sgn, hc]
  | c :: d :: r, p, h => by
    by_cases hc : c = 92
    · have e : sgn (c :: d :: r) p = ([d], false, p + 2) :: sgn r (p + 2) := by simp [sgn, hc]
      by_cases hr : sgn r (p + 2) = []
      · have := sgn_nil hr
        subst this
        simp [sgn, hc]
      · have ih := sgn_last r (p + 2) hr
        simp only [e]
        rw [List.getLast_cons hr, ih]
        simp only [List.length_cons]; omega
    · have e : sgn (c :: d :: r) p = ([c], true, p + 1) :: sgn (d :: r) (p + 1) := by simp [sgn, hc]
      have hr : sgn (d :: r) (p + 1) ≠ [] := fun q => by have := sgn_nil q; cases this
      have ih := sgn_last (d :: r) (p + 1) hr
      simp only [e]
      rw [List.getLast_cons hr, ih]
      simp only [List.length_cons]; omega

section
variable {cs : List Nat} {ss : List Sign} {a p : Nat}
/-- the signs from a on are those of the text from p on -/
def At (cs : List Nat) (ss : List Sign) (a p : Nat) : Prop := ss.drop a = sgn (cs.drop p) p ∧ p ≤ cs.length ∧ a ≤ ss.length

theorem At.lt (h : At cs ss a p) (ha : a < ss.length) : p < cs.length := by
  obtain ⟨h1, h2, _⟩ := h
  apply Nat.lt_of_not_le
  intro hle
  rw [List.drop_eq_nil_of_le hle] at h1
  simp only [sgn] at h1
  have := congrArg List.length h1
  simp at this; omega
theorem At.end (h : At cs ss ss.length p) : p = cs.length := by
  obtain ⟨h1, h2, _⟩ := h
  rw [List.drop_eq_nil_of_le (Nat.le_refl _)] at h1
  have := congrArg List.length (sgn_nil h1.symm)
  simp at this; omega
/-- the sign at a: bare -/
theorem At.plain (h : At cs ss a p) (ha : a < ss.length) (hp : p < cs.length) (hc : cs[p] ≠ 92) : ss[a] = ([cs[p]], true, p + 1) ∧ At cs ss (a + 1) (p + 1) := by
  obtain ⟨h1, h2, _⟩ := h
  rw [List.drop_eq_getElem_cons ha, List.drop_eq_getElem_cons hp, sgn_plain hc] at h1
  obtain ⟨h3, h4⟩ := List.cons.inj h1
  exact ⟨h3, h4, hp, ha⟩
/-- the sign at a: escaped -/
theorem At.esc (h : At cs ss a p) (ha : a < ss.length) (hp : p < cs.length) (hc : cs[p] = 92) : ss[a] = ((cs.drop (p + 1)).take 1, false, min (p + 2) cs.length) ∧ At cs ss (a + 1) (min cs.length (p + 1 + 1)) := by
  obtain ⟨h1, h2, _⟩ := h
  rw [List.drop_eq_getElem_cons ha, sgn_esc hp hc] at h1
  obtain ⟨h3, h4⟩ := List.cons.inj h1
  refine ⟨h3, ?_, Nat.min_le_left _ _, ha⟩
  rw [h4]
  by_cases hq : p + 2 ≤ cs.length
  · rw [Nat.min_eq_right (by omega)]
  · rw [Nat.min_eq_left (by omega), List.drop_eq_nil_of_le (show cs.length ≤ p + 2 by omega), List.drop_eq_nil_of_le (Nat.le_refl _)]
    rfl
theorem At.bare (h : At cs ss a p) (ha : a < ss.length) {stop : Nat → Bool} (hb : bareIn stop ss[a] = true) : ∃ hp : p < cs.length, cs[p] ≠ 92 ∧ stop cs[p] = true := by
  have hp := h.lt ha
  refine ⟨hp, ?_⟩
  by_cases hc : cs[p] = 92
  · rw [(h.esc ha hp hc).1] at hb; simp [bareIn] at hb
  · rw [(h.plain ha hp hc).1] at hb
    exact ⟨hc, by simpa [bareIn] using hb⟩
theorem At.notBare (h : At cs ss a p) (ha : a < ss.length) {stop : Nat → Bool} (h92 : stop 92 = false) (hb : bareIn stop ss[a] = false) : ∃ hp : p < cs.length, stop cs[p] = false := by
  have hp := h.lt ha
  refine ⟨hp, ?_⟩
  by_cases hc : cs[p] = 92
  · rw [hc]; exact h92
  · rw [(h.plain ha hp hc).1] at hb
    simpa [bareIn] using hb
/-- a blank is skipped -/
theorem At.skip (h : At cs ss a p) (ha : a < ss.length) (hb : bareIn isWs ss[a] = true) : At cs ss (a + 1) (p + 1) ∧ wl cs.length (cs.drop p) = wl cs.length (cs.drop (p + 1)) := by
  obtain ⟨hp, hc, hw⟩ := h.bare ha hb
  refine ⟨(h.plain ha hp hc).2, ?_⟩
  rw [List.drop_eq_getElem_cons hp, wl_ws hw]
/-- a word begins -/
theorem At.word (h : At cs ss a p) (ha : a < ss.length) (hb : bareIn isWs ss[a] = false) :
    wl cs.length (cs.drop p) = ((tok (cs.drop p)).1, cs.length - (tok (cs.drop p)).2.length) :: wl cs.length (tok (cs.drop p)).2 := by
  obtain ⟨hp, hw⟩ := h.notBare ha (stop := isWs) rfl hb
  refine wl_some ?_
  rw [List.drop_eq_getElem_cons hp, List.all_cons, hw]
  rfl
theorem At.quote (h : At cs ss a p) (ha : a < ss.length) (hb : bareIn (· == 34) ss[a] = true) : At cs ss (a + 1) (p + 1) ∧ tok (cs.drop p) = tokS (· == 34) (cs.drop (p + 1)) := by
  obtain ⟨hp, hc, hw⟩ := h.bare ha hb
  refine ⟨(h.plain ha hp hc).2, ?_⟩
  rw [List.drop_eq_getElem_cons hp, show cs[p] = 34 from beq_iff_eq.mp hw, tok_quote]
theorem At.noquote (h : At cs ss a p) (ha : a < ss.length) (hb : bareIn isWs ss[a] = false) (hq : bareIn (· == 34) ss[a] = false) : tok (cs.drop p) = tokS isWs (cs.drop p) := by
  obtain ⟨hp, hw⟩ := h.notBare ha (stop := isWs) rfl hb
  obtain ⟨_, hw2⟩ := h.notBare ha (stop := (· == 34)) rfl hq
  rw [List.drop_eq_getElem_cons hp, tok_word hw (beq_eq_false_iff_ne.mp hw2)]
/-- a sign of the word -/
theorem At.inside (h : At cs ss a p) (ha : a < ss.length) {stop : Nat → Bool} (h92 : stop 92 = false) (hb : bareIn stop ss[a] = false) :
    ∃ p', At cs ss (a + 1) p' ∧ (tokS stop (cs.drop p)).1 = ss[a].1 ++ (tokS stop (cs.drop p')).1 ∧ (tokS stop (cs.drop p)).2 = (tokS stop (cs.drop p')).2 := by
  obtain ⟨hp, hw⟩ := h.notBare ha h92 hb
  by_cases hc : cs[p] = 92
  · obtain ⟨e1, e2⟩ := h.esc ha hp hc
    obtain ⟨q1, q2⟩ := esc_step h92 hp hc
    exact ⟨_, e2, by rw [e1]; exact q1, q2⟩
  · obtain ⟨e1, e2⟩ := h.plain ha hp hc
    obtain ⟨q1, q2⟩ := plain_step hp hw hc
    exact ⟨_, e2, by rw [e1]; exact q1, q2⟩
/-- the word's end by its stop -/
theorem At.stop (h : At cs ss a p) (ha : a < ss.length) {stop : Nat → Bool} (hb : bareIn stop ss[a] = true) :
    At cs ss (a + 1) (p + 1) ∧ tokS stop (cs.drop p) = ([], cs.drop (p + 1)) ∧ ss[a].2.2 = p + 1 ∧ p < cs.length := by
  obtain ⟨hp, hc, hw⟩ := h.bare ha hb
  obtain ⟨e1, e2⟩ := h.plain ha hp hc
  exact ⟨e2, by rw [List.drop_eq_getElem_cons hp, tokS_stop hw], by rw [e1], hp⟩
end
theorem off_16 : True := by
  w_top off
  trivial
/-- the list's items are the words' tuples, and they stand in the ledger -/
def WordsAre (rows : List (Addr × Obj)) (vs : List Value) (ws : List (List Nat × Nat)) : Prop :=
  vs.length = ws.length ∧ ∀ (j : Nat) (hj : j < vs.length) (hj' : j < ws.length), ∃ a t1 t3 n, vs[j] = .ref a ∧ (a, tup [.str (mkS ws[j].1) t1, .int (ws[j].2 : Int) t3] n) ∈ rows
theorem WordsAre.nil {rows : List (Addr × Obj)} : WordsAre rows [] [] := ⟨rfl, fun j hj => absurd hj (Nat.not_lt_zero j)⟩
theorem WordsAre.mono {rows rows' : List (Addr × Obj)} {vs : List Value} {ws : List (List Nat × Nat)} (S : WordsAre rows vs ws) (h : ∀ q ∈ rows, q ∈ rows') : WordsAre rows' vs ws :=
  ⟨S.1, fun j hj hj' => let ⟨a, t1, t3, n, h1, h2⟩ := S.2 j hj hj'; ⟨a, t1, t3, n, h1, h _ h2⟩⟩
theorem SignsAre.mono {rows rows' : List (Addr × Obj)} {vs : List Value} {ss : List Sign} (S : SignsAre rows vs ss) (h : ∀ q ∈ rows, q ∈ rows') : SignsAre rows' vs ss :=
  ⟨S.1, fun j hj hj' => let ⟨a, t1, t3, n, h1, h2⟩ := S.2 j hj hj'; ⟨a, t1, t3, n, h1, h _ h2⟩⟩
theorem WordsAre.push {rows : List (Addr × Obj)} {vs : List Value} {ws : List (List Nat × Nat)} (S : WordsAre rows vs ws) {a : Addr} {c : List Nat} {e t1 t3 n : Nat} :
    WordsAre ((a, tup [.str (mkS c) t1, .int (e : Int) t3] n) :: rows) (vs ++ [.ref a]) (ws ++ [(c, e)]) := by
  refine ⟨by simp [S.1], fun j hj hj' => ?_⟩
  by_cases h : j < vs.length
  · obtain ⟨a', t1', t3', n', h1, h2⟩ := S.2 j h (S.1 ▸ h)
    exact ⟨a', t1', t3', n', by rw [List.getElem_append_left h]; exact h1, by rw [List.getElem_append_left (S.1 ▸ h)]; exact .tail _ h2⟩
  · have hj2 : j = vs.length := by simp at hj; omega
    subst hj2
    refine ⟨a, t1, t3, n, by simp, ?_⟩
    have e2 : (ws ++ [(c, e)])[vs.length]'hj' = (c, e) := by
      simp [S.1]
    rw [e2]; exact .head _

theorem SignsAre.at {rows : List (Addr × Obj)} {vs : List Value} {ss : List Sign} (S : SignsAre rows vs ss) {j : Nat} (hj : j < ss.length) :
    ∃ a t1 t3 n, vs[j]? = some (.ref a) ∧ (a, tup [.str (mkS ss[j].1) t1, .bool ss[j].2.1, .int (ss[j].2.2 : Int) t3] n) ∈ rows := by
  have hj' : j < vs.length := by rw [S.1]; exact hj
  obtain ⟨a, t1, t3, n, h1, h2⟩ := S.2 j hj' hj
  exact ⟨a, t1, t3, n, by rw [List.getElem?_eq_getElem hj', h1], h2⟩
theorem WordsAre.at {rows : List (Addr × Obj)} {vs : List Value} {ws : List (List Nat × Nat)} (S : WordsAre rows vs ws) {j : Nat} (hj : j < ws.length) :
    ∃ a t1 t3 n, vs[j]? = some (.ref a) ∧ (a, tup [.str (mkS ws[j].1) t1, .int (ws[j].2 : Int) t3] n) ∈ rows := by
  have hj' : j < vs.length := by rw [S.1]; exact hj
  obtain ⟨a, t1, t3, n, h1, h2⟩ := S.2 j hj' hj
  exact ⟨a, t1, t3, n, by rw [List.getElem?_eq_getElem hj', h1], h2⟩

section
variable {prog : Program} {w : World} {A : Around} {E : Value → Shared → Prop} {s : Shared} {g : Heap} {L : Addr} {m : Str → Option Value} {news : List (Addr × Obj)}
/-- an item of a list of the ledger, its place known -/
theorem item_J {value slice : Expr} {l : Addr} {its : List Value} {n j : Nat} {k : Int} {u : Tok} {v : Value} {Q : Value → Shared → Prop}
    (N : News g L s.heap news) (hm : (l, W.listOf its.toArray n) ∈ news) (hx : its[j]? = some v) (hk : k = (j : Int)) (hz : its.length ≤ 100000) (h : Q v s)
    (hs : subscripted slice false (.ref l) (.int k u) = operate [.ref l, .int k u] (getItem (.ref l) (.int k u))) :
    wpAny (model prog w) A (subscriptTail value slice (.ref l) (.int k u)) Q E s := by
  have hj : j < its.length := by
    apply Nat.lt_of_not_le; intro hle
    rw [List.getElem?_eq_none hle] at hx; cases hx
  subst hk
  exact tail_any (N.isList hm).typeIs slot_list_getitem.lookup (wpAny_getItem_list (N.isList hm) (by omega) (by omega) (by simpa using hx) h) hs
theorem len_M {l : Addr} {its : List Value} {n : Nat} {Q : Value → Shared → Prop} (N : News g L s.heap news) (hm : (l, W.listOf its.toArray n) ∈ news) (hz : its.length ≤ 100000)
    (h : Q (.int (its.length : Int) (s.toks + 1)) { s with toks := s.toks + 1 + 1 }) : wpAny (model prog w) A (call (.builtin "len") [.ref l]) Q E s :=
  PyProof.Rows.len_list (N.isList hm) (by simp; omega) (by simpa using h)
theorem min_l {a b : Int} {t u : Tok} {Q : Value → Shared → Prop} (hh : A.handled = none) (F : Fr g L s.heap m) (N : News g L s.heap news) (hab : a ≤ b)
    (h : ∀ h' tk, Fr g L h' m → News g L h' news → Q (.int a t) { s with heap := h', toks := tk }) : wpAny (model prog w) A (call (.builtin "min") [.int a t, .int b u]) Q E s :=
  min_two_N hh F N fun h' tk F' N' => by rw [if_neg (by omega), if_neg (by omega)]; exact h h' tk F' N'
theorem min_r {a b : Int} {t u : Tok} {Q : Value → Shared → Prop} (hh : A.handled = none) (F : Fr g L s.heap m) (N : News g L s.heap news) (hab : b < a)
    (h : ∀ h' tk, Fr g L h' m → News g L h' news → Q (.int b u) { s with heap := h', toks := tk }) : wpAny (model prog w) A (call (.builtin "min") [.int a t, .int b u]) Q E s :=
  min_two_N hh F N fun h' tk F' N' => by rw [if_pos hab, if_pos hab]; exact h h' tk F' N'
end

theorem tab_eq : Str.ofString "\t" = mkS [9] := by decide +kernel
theorem cr_eq : Str.ofString "\x0d" = mkS [13] := by decide +kernel
theorem sp_eq : Str.ofString " " = mkS [32] := by decide +kernel
theorem one_beq (x : Nat) : ∀ c : List Nat, ([x] == c) = (match c with | [y] => x == y | _ => false)
  | [] => rfl
  | [y] => by rw [Bool.eq_iff_iff]; simp
  | y :: z :: r => by rw [Bool.eq_iff_iff]; simp
theorem any_ws (b : Bool) (c : List Nat) (e : Nat) : (b && [Str.ofString "\n", Str.ofString "\t", Str.ofString "\x0d", Str.ofString " "].any (· == mkS c)) = bareIn isWs (c, b, e) := by
  rw [nl_eq, tab_eq, cr_eq, sp_eq]
  simp only [List.any_cons, List.any_nil, mkS_beq, one_beq, bareIn, Bool.or_false]
  congr 1
  match c with
  | [] => rfl
  | [y] =>
    simp only [isWs]
    rw [Bool.eq_iff_iff]
    simp only [Bool.or_eq_true, beq_iff_eq]
    omega
  | y :: z :: r => rfl
theorem any_quote (b : Bool) (c : List Nat) (e : Nat) : (b && [Str.ofString "\""].any (· == mkS c)) = bareIn (· == 34) (c, b, e) := by
  rw [quote_eq]
  simp only [List.any_cons, List.any_nil, mkS_beq, one_beq, bareIn, Bool.or_false]
  congr 1
  match c with
  | [] => rfl
  | [y] => rw [Bool.eq_iff_iff]; simp only [beq_iff_eq]; exact ⟨Eq.symm, Eq.symm⟩
  | y :: z :: r => rfl
theorem four_strs {a b c d : Str} {t1 t2 t3 t4 : Tok} : StrsAre [.str a t1, .str b t2, .str c t3, .str d t4] [a, b, c, d] := .cons _ _ (.cons _ _ (.cons _ _ (.cons _ _ .nil)))
theorem one_strs {a : Str} {t1 : Tok} : StrsAre [.str a t1] [a] := .cons _ _ .nil
theorem sgn_len : ∀ (l : List Nat) (p : Nat), (sgn l p).length ≤ l.length
  | [], _ => by simp [sgn]
  | [c], p => by simp only [sgn]; split <;> simp
  | c :: d :: r, p => by
    have h1 := sgn_len r (p + 2)
    have h2 := sgn_len (d :: r) (p + 1)
    simp only [sgn]
    split
    · simp only [List.length_cons] at *; omega
    · simp only [List.length_cons] at *; omega
local macro_rules | `(tactic| k_mem) => `(tactic| assumption)
local macro_rules | `(tactic| walk_at "subscriptTail Name Name ref int") => `(tactic| (k_here; (with_unfolding_all refine' item_J ?k1 ?k2 ?k3 ?k4 ?k5 ?_ ?k6; (case k1 => k_asm); (case k2 => k_mem); (case k3 => assumption); (case k4 => first | rfl | omega); (case k5 => omega); (case k6 => with_unfolding_all rfl); k_whole)))
local macro_rules | `(tactic| walk_at "subscriptTail Name BinOp ref int") => `(tactic| (k_here; (with_unfolding_all refine' item_J ?k1 ?k2 ?k3 ?k4 ?k5 ?_ ?k6; (case k1 => k_asm); (case k2 => k_mem); (case k3 => assumption); (case k4 => first | rfl | omega); (case k5 => omega); (case k6 => with_unfolding_all rfl); k_whole)))
local macro_rules | `(tactic| walk_at "call builtin:len") => `(tactic| (k_here; (with_reducible show wpAny _ _ (call (Value.builtin "len") [Value.ref _]) _ _ _); k_dflt (refine' len_M ?k1 ?k2 ?k3 ?_; (case k1 => k_asm); (case k2 => k_mem); (case k3 => omega); k_whole)))
local macro_rules | `(tactic| walk_at "call builtin:min") => `(tactic| (k_here; (with_reducible show wpAny _ _ (call (Value.builtin "min") [Value.int _ _, Value.int _ _]) _ _ _); k_dflt (first | (refine' min_l ?hh ?k1 ?k2 ?k3 ?_; (case hh => rfl); (case k1 => k_asm); (case k2 => k_asm); (case k3 => omega); k_whole) | (refine' min_r ?hh ?k1 ?k2 ?k3 ?_; (case hh => rfl); (case k1 => k_asm); (case k2 => k_asm); (case k3 => omega); k_whole)); intro h' tk' F' N'; (try k_sweep)))
local macro_rules | `(tactic| walk_at "call ref") => `(tactic| (k_here; (with_reducible show wpAny _ _ (call (Value.ref 77) [Value.ref _, Value.ref _] _) _ _ _); k_dflt (refine' is_M ?k1 ?k2 ?k3 ?k4 ?k5 ?k6 ?k7 ?k8 ?_; (case k1 => k_asm); (case k2 => k_asm); (case k3 => walk_at "mine aok"); (case k4 => k_asm); (case k5 => k_asm); (case k6 => k_mem); (case k7 => k_mem); (case k8 => first | exact four_strs | exact one_strs | assumption); k_whole); intro h' tk' F' N'; (try first | rw [any_ws _ _ 0] | rw [any_quote _ _ 0]); (try k_sweep)))
theorem off_17 : True := by
  w_top off
  trivial
theorem signs_M {w : World} {A : Around} {s : Shared} {E : Value → Shared → Prop} {g : Heap} {L : Addr} {m mg mb : Str → Option Value} {p : Program} {loose : List Str} {mean : ExcName → Option Value} {news : List (Addr × Obj)} {Q : Value → Shared → Prop}
    {cs : List Nat} {tt : Nat} (htx : cs.length ≤ 100) (X : (hd.heap_39 w.params).In g) (T : Top p loose mean mg mb g) (hA : AOk 440 A) (F : Fr g L s.heap m) (N : News g L s.heap news)
    (h : ∀ h' tk D vs n rows, Fr g L h' m → News g L h' ((D, W.listOf vs.toArray n) :: (rows ++ news)) → (∀ q ∈ news, q.1 < D) → (∀ q ∈ rows, D < q.1) → L < D → SignsAre rows vs (sgn cs 0) → Q (.ref D) { s with heap := h', toks := tk }) :
    wpAny (model pr w) A (call (.ref 70) [.str (mkS cs) tt]) Q E s := by
  refine wpAny_call (signs_spec htx X T F.keep hA ?_)
  intro h' tk D vs n rows k H hD hr hS
  have hLs : L < s.heap.objs.size := F.ns.lt
  refine h h' tk D vs n rows (k.fr0 F) ?_ (fun q hq => Nat.lt_of_lt_of_le (Heap.lt_size (N q hq).1) hD) hr (Nat.lt_of_lt_of_le hLs hD) hS
  intro q hq
  rcases List.mem_cons.mp hq with rfl | hq
  · exact ⟨(H _ (.head _)).1, Nat.ne_of_gt (Nat.lt_of_lt_of_le hLs hD), (H _ (.head _)).2⟩
  · rcases List.mem_append.mp hq with hq | hq
    · exact ⟨(H q (.tail _ hq)).1, Nat.ne_of_gt (Nat.lt_trans (Nat.lt_of_lt_of_le hLs hD) (hr q hq)), (H q (.tail _ hq)).2⟩
    · exact k.news0 N q hq

/-- each item is a tuple that begins with this text -/
inductive Heads (h : Heap) : List Value → List (List Nat) → Prop where
  | nil : Heads h [] []
  | cons {one : Addr} {c : List Nat} {t n : Nat} {rest : List Value} {vs : List Value} {zs : List (List Nat)} : h.get? one = some (tup (.str (mkS c) t :: rest) n) → Heads h vs zs → Heads h (.ref one :: vs) (c :: zs)
theorem Heads.drop {h : Heap} : ∀ {vs : List Value} {zs : List (List Nat)}, Heads h vs zs → ∀ k : Nat, Heads h (vs.drop k) (zs.drop k)
  | _, _, x, 0 => x
  | _, _, .nil, _ + 1 => .nil
  | _, _, .cons _ r, k + 1 => r.drop k
theorem Heads.take {h : Heap} : ∀ {vs : List Value} {zs : List (List Nat)}, Heads h vs zs → ∀ k : Nat, Heads h (vs.take k) (zs.take k)
  | _, _, _, 0 => .nil
  | _, _, .nil, _ + 1 => .nil
  | _, _, .cons e r, k + 1 => .cons e (r.take k)
theorem Heads.of {h : Heap} {rows : List (Addr × Obj)} (hr : ∀ q ∈ rows, h.get? q.1 = some q.2) : ∀ {vs : List Value} {ss : List Sign}, SignsAre rows vs ss → Heads h vs (ss.map (·.1))
  | [], [], _ => .nil
  | [], _ :: _, S => by have := S.1; simp at this
  | _ :: _, [], S => by have := S.1; simp at this
  | v :: vs, x :: ss, S => by
    obtain ⟨a, t1, t3, n, h1, h2⟩ := S.2 0 (Nat.succ_pos _) (Nat.succ_pos _)
    have e : v = .ref a := h1
    subst e
    refine .cons (hr _ h2) (Heads.of hr ⟨by have := S.1; simpa using this, fun j hj hj' => ?_⟩)
    obtain ⟨a', t1', t3', n', h1', h2'⟩ := S.2 (j + 1) (Nat.succ_lt_succ hj) (Nat.succ_lt_succ hj')
    exact ⟨a', t1', t3', n', h1', h2'⟩
/-- what the comprehension makes of an item -/
def FirstOf (h : Heap) (v y : Value) : Prop := ∃ one c t rest n, v = .ref one ∧ h.get? one = some (tup (.str (mkS c) t :: rest) n) ∧ y = .str (mkS c) t
theorem Heads.strs {h : Heap} : ∀ {vs ys : List Value} {zs : List (List Nat)}, Heads h vs zs → Paired (FirstOf h) vs ys → StrsAre ys (zs.map mkS)
  | _, _, _, .nil, .nil => .nil
  | _, _, _, .cons e r, .cons f q => by
    obtain ⟨one, c, t, rest, n, h1, h2, h3⟩ := f
    cases h1
    rw [e] at h2
    cases h2
    subst h3
    exact .cons _ _ (r.strs q)
theorem Heads.mem {h : Heap} : ∀ {vs : List Value} {zs : List (List Nat)}, Heads h vs zs → ∀ v ∈ vs, ∃ one c t rest n, v = .ref one ∧ h.get? one = some (tup (.str (mkS c) t :: rest) n)
  | _, _, .cons e r, v, hv => by
    rcases List.mem_cons.mp hv with rfl | hv
    · exact ⟨_, _, _, _, _, rfl, e⟩
    · exact r.mem v hv

/-- one[0], in the comprehension's own block -/
theorem elt_first {w : World} {A : Around} {env : Env} {scope : Scope} {x : Str} {p1 p2 p3 : Pos} {C : Addr} {v : Value} {s₃ : Shared} {m₃ : Str → Option Value} {E' : Value → Shared → Prop} {h : Heap}
    (hkind : scope.kind = .function) (hx : scope.names.lookup x = some .local) (hd : (x == ("__debug__" : Str)) = false)
    (hv : ∃ one c t rest n, v = .ref one ∧ h.get? one = some (tup (.str (mkS c) t :: rest) n)) (hn : s₃.heap.Ns C m₃) (hm : m₃ x = some v) (hk : ∀ b o, h.get? b = some o → s₃.heap.get? b = some o) :
    wpAny (model pr w) A (eval (.Subscript (.Name x p1) (.Constant (.int 0) 0 p2) p3) (compEnvC scope [] C env)) (fun y s₄ => FirstOf h v y ∧ Keeps s₃ s₄) E' s₃ := by
  obtain ⟨one, c, t, rest, n, rfl, ho⟩ := hv
  refine Subscript_ (wpAny_Name (wpAny_loadName_local (by simp [compEnvC, relabel, hkind]) (lookup_relabel_local hx) hn hm ?_) hd)
  refine wpAny_Constant_int ?_
  refine item_tupleT (l := .str (mkS c) t :: rest) (j := 0) ⟨_, hk _ _ ho, rfl, n, rfl⟩ (by decide) (by decide) (by simp [seqIndex?]) rfl ?_ (by with_unfolding_all rfl)
  exact ⟨⟨one, c, t, rest, n, rfl, ho, rfl⟩, s₃.heap, _, rfl, fun _ _ e => e⟩

theorem item_T {prog : Program} {w : World} {A : Around} {E : Value → Shared → Prop} {s : Shared} {g : Heap} {L : Addr} {news : List (Addr × Obj)} {value slice : Expr} {t : Addr} {l : List Value} {n : Nat} {k : Int} {u : Tok} {v : Value} {Q : Value → Shared → Prop}
    (N : News g L s.heap news) (hm : (t, tup l n) ∈ news) (h0 : 0 ≤ k) (hz : l.length ≤ 100) (hx : l[k.toNat]? = some v) (h : Q v s)
    (hs : subscripted slice false (.ref t) (.int k u) = operate [.ref t, .int k u] (getItem (.ref t) (.int k u))) :
    wpAny (model prog w) A (subscriptTail value slice (.ref t) (.int k u)) Q E s := by
  have hj : k.toNat < l.length := by
    apply Nat.lt_of_not_le; intro hle
    rw [List.getElem?_eq_none hle] at hx; cases hx
  refine item_tupleT (l := l) (j := k.toNat) ⟨_, (N _ hm).1, rfl, n, rfl⟩ (by omega) (by omega) ?_ hx h hs
  unfold seqIndex?
  have h1 : ¬ k < 0 := by omega
  simp only [h1, if_false]
  rw [if_pos (by simp; omega)]
theorem News.sub {g h : Heap} {L : Addr} {news news' : List (Addr × Obj)} (N : News g L h news) (hs : ∀ q ∈ news', q ∈ news) : News g L h news' := fun q hq => N q (hs q hq)
theorem take_next {α : Type} {l : List α} {a e : Nat} (h1 : a ≤ e) (h2 : e < l.length) : (l.drop a).take (e + 1 - a) = (l.drop a).take (e - a) ++ [l[e]] := by
  rw [show e + 1 - a = (e - a) + 1 by omega, List.take_add_one]
  congr 1
  rw [List.getElem?_drop, show a + (e - a) = e by omega, List.getElem?_eq_getElem h2]
  rfl
theorem words_end {g h : Heap} {L l D₂ D' S Wd D : Addr} {o1 o2 o3 o4 oD : Obj} {wvs : List Value} {n : Nat} {rows : List (Addr × Obj)}
    (N : News g L h ((l, o1) :: (D₂, o2) :: (D', o3) :: (S, o4) :: (Wd, W.listOf (wvs.toArray.push (Value.ref l)) n) :: (D, oD) :: rows)) :
    News g L h ((Wd, W.listOf (wvs ++ [Value.ref l]).toArray n) :: (D, oD) :: (l, o1) :: rows) := by
  rw [List.push_toArray] at N
  intro q hq
  rcases List.mem_cons.mp hq with rfl | hq
  · exact N _ (.tail _ (.tail _ (.tail _ (.tail _ (.head _)))))
  · rcases List.mem_cons.mp hq with rfl | hq
    · exact N _ (.tail _ (.tail _ (.tail _ (.tail _ (.tail _ (.head _))))))
    · rcases List.mem_cons.mp hq with rfl | hq
      · exact N _ (.head _)
      · exact N _ (.tail _ (.tail _ (.tail _ (.tail _ (.tail _ (.tail _ hq))))))
theorem allLt_mem {d : Nat} {rows : List (Addr × Obj)} (h : AllLt d rows) : ∀ q ∈ rows, q.1 < d := by
  induction rows with
  | nil => intro q hq; cases hq
  | cons p r ih =>
    intro q hq
    rcases List.mem_cons.mp hq with rfl | hq
    · exact h.1
    · exact ih h.2 q hq
local macro_rules | `(tactic| walk_at "mine mems") => `(tactic| (intro q hq; k_mem))
local macro_rules | `(tactic| walk_at "mine mems") => `(tactic| (refine' List.forall_mem_cons.mpr ⟨?hm1, ?hm2⟩; (case hm1 => k_mem); (case hm2 => walk_at "mine mems")))
local macro_rules | `(tactic| walk_at "eval ListComp") => `(tactic| (k_here; k_dflt (refine' comp_M ?k1 ?k2 ?k3 ?k4 ?k5 ?_ ?k6; (case k1 => exact rfl); (case k2 => decide); (case k3 => exact rfl); (case k4 => decide); (case k5 => exact rfl); (case k6 => (intro _; rfl)); k_whole)))
local macro_rules | `(tactic| walk_at "subscriptTail Name Slice ref ref") => `(tactic| (k_here; k_dflt (refine' slice_M ?F ?N ?m ?ab ?b ?z ?_ ?s ?t; (case F => k_asm); (case N => k_asm); (case m => k_mem); (case ab => omega); (case b => omega); (case z => omega); (case s => with_unfolding_all rfl); (case t => (intro _; with_unfolding_all rfl)); k_whole); intro D' h' F' N' l1; (try k_lt l1); (try k_sweep)))
local macro_rules | `(tactic| walk_at "call builtin:str.join") => `(tactic| (k_here; k_dflt (refine' join_M ?k1 ?k2 ?k3 ?k4 ?_; (case k1 => k_asm); (case k2 => k_mem); (case k3 => assumption); (case k4 => omega); k_whole); intro t' k'))
local macro_rules | `(tactic| walk_at "subscriptTail Subscript Name BinOp Constant ref int") => `(tactic| (k_here; (with_unfolding_all refine' item_T ?k1 ?k2 ?k3 ?k4 ?k5 ?_ ?k6; (case k1 => k_asm); (case k2 => k_mem); (case k3 => decide); (case k4 => decide); (case k5 => rfl); (case k6 => with_unfolding_all rfl); k_whole)))
local macro_rules | `(tactic| walk_at "call ref") => `(tactic| (k_here; (with_reducible show wpAny _ _ (call (Value.ref 70) [Value.str _ _] _) _ _ _); k_dflt (refine' signs_M ?k1 ?k2 ?k3 ?k4 ?k5 ?k6 ?_; (case k1 => assumption); (case k2 => k_asm); (case k3 => k_asm); (case k4 => walk_at "mine aok"); (case k5 => k_asm); (case k6 => k_asm); k_whole); intro h' tk' D' vs' n' rows' F' N' l1 l2 l3 hS'; (try simp only [List.append_nil] at N'); (try k_lt l1); k_lt2 l3; (try k_sweep)))
theorem off_18 : True := by
  w_top off
  trivial
/-- the outer loop of _law_words -/
inductive WJ1 (cs : List Nat) (ss : List (List Nat × Bool × Nat)) (vs : List Value) (D Wd : Addr) (nD sz n : Nat) (m : Str → Option Value) (news : List (Addr × Obj)) : Prop
  | mk (a p : Nat) (wvs : List Value) (nW : Nat) (rows : List (Addr × Obj)) (ws : List (List Nat × Nat)) (ta : Nat) (hn : n = ss.length + 1 - a) (h1 : m (Str.ofString "signs") = some (.ref D)) (h2 : m (Str.ofString "words") = some (.ref Wd)) (h3 : m (Str.ofString "at") = some (.int ((a : Nat) : Int) ta))
    (hr : news = (Wd, W.listOf wvs.toArray nW) :: (D, W.listOf vs.toArray nD) :: rows) (hq : ∀ q ∈ rows, q.1 ≠ Wd ∧ sz ≤ q.1) (hS : SignsAre rows vs ss) (hW : WordsAre rows wvs ws) (hA : At cs ss a p) (hE : ws ++ wl cs.length (cs.drop p) = wl cs.length cs) : WJ1 cs ss vs D Wd nD sz n m news
/-- the blanks -/
inductive WJ2 (cs : List Nat) (ss : List (List Nat × Bool × Nat)) (D Wd : Addr) (nws : List (Addr × Obj)) (a p₁ n : Nat) (m : Str → Option Value) (news : List (Addr × Obj)) : Prop
  | mk (a' p' ta' : Nat) (hn : n = ss.length - a') (h1 : m (Str.ofString "signs") = some (.ref D)) (h2 : m (Str.ofString "words") = some (.ref Wd)) (h3 : m (Str.ofString "at") = some (.int ((a' : Nat) : Int) ta'))
    (hr : news = nws) (hA : At cs ss a' p') (hl : a ≤ a') (hE : wl cs.length (cs.drop p') = wl cs.length (cs.drop p₁)) : WJ2 cs ss D Wd nws a p₁ n m news
/-- the signs of a word -/
inductive WJ4 (cs : List Nat) (ss : List (List Nat × Bool × Nat)) (D Wd : Addr) (nws : List (Addr × Obj)) (stop : Nat → Bool) (zs : List Str) (a p n : Nat) (m : Str → Option Value) (news : List (Addr × Obj)) : Prop
  | mk (e q te : Nat) (S : Addr) (svs : List Value) (nS ta : Nat) (hn : n = ss.length - e) (h1 : m (Str.ofString "signs") = some (.ref D)) (h2 : m (Str.ofString "words") = some (.ref Wd)) (h3 : m (Str.ofString "at") = some (.int ((a : Nat) : Int) ta)) (h4 : m (Str.ofString "end") = some (.int ((e : Nat) : Int) te)) (h5 : m (Str.ofString "stops") = some (.ref S))
    (hr : news = (S, W.listOf svs.toArray nS) :: nws) (hz : StrsAre svs zs) (hne : @Ne Nat S Wd) (hA : At cs ss e q) (hl : a ≤ e)
    (hT1 : (tokS stop (cs.drop p)).1 = (((ss.map (·.1)).drop a).take (e - a)).flatten ++ (tokS stop (cs.drop q)).1) (hT2 : (tokS stop (cs.drop p)).2 = (tokS stop (cs.drop q)).2) : WJ4 cs ss D Wd nws stop zs a p n m news
theorem words_spec {w : World} {A : Around} {s : Shared} {g₀ : Heap} {mg mb : Str → Option Value} {p : Program} {loose : List Str} {mean : ExcName → Option Value} {R : Result → Shared → Prop}
    {cs : List Nat} {tt : Nat} (htx : cs.length ≤ 100)
    (X₀ : (hd.heap_39 w.params).In g₀) (T₀ : Top p loose mean mg mb g₀) (hs : g₀.StaysIn s.heap) (hA : AOk 420 A)
    (h : ∀ h' tk D vs n rows, KeptH [] s.heap h' → Has g₀ h' ((D, W.listOf vs.toArray n) :: rows) → s.heap.objs.size ≤ D → (∀ q ∈ rows, s.heap.objs.size ≤ q.1 ∧ q.1 ≠ D) → WordsAre rows vs (wl cs.length cs) → R (.ok (.ret (.ref D))) { s with heap := h', toks := tk }) :
    codeAny (model pr w) A (.call (.ref 82) ⟨[.str (mkS cs) tt], []⟩) R s := by
  have htx' : (mkS cs).length ≤ 100 := by rw [mkS_length]; exact htx
  have H : Has g₀ s.heap [] := .nil
  walk_at "mine enter"
  walk_at "mine steps"
  obtain ⟨ss, hss⟩ : ∃ ss, ss = sgn cs 0 := ⟨_, rfl⟩
  have hsl : ss.length ≤ 100 := by have := sgn_len cs 0; rw [← hss] at this; omega
  rename_i dp fr gd un hdp hun g L h₀ st X T kp l1 l2 tka hb tkb D vs nD rows₀ hr₀ hS₀ l3 l4 hc tkd Wd hd' l5 l6 he hf F N
  rw [← hss] at hS₀
  have hvl : vs.length = ss.length := hS₀.1
  have hWr : ∀ q ∈ rows₀, q.1 ≠ Wd ∧ s.heap.objs.size ≤ q.1 := fun q hq => by
    have q1 := hr₀ q hq
    exact ⟨Nat.ne_of_lt (allLt_mem l5.2 q hq), Nat.le_of_lt (Nat.lt_trans (Nat.lt_of_le_of_lt l2 l4) q1)⟩
  refine While_M (WJ1 cs ss vs D Wd nD s.heap.objs.size) F N
    ⟨0, 0, [], 0, rows₀, [], _, rfl, rfl, rfl, rfl, rfl, hWr, hS₀, WordsAre.nil, ⟨by rw [hss]; rfl, Nat.zero_le _, Nat.zero_le _⟩, rfl⟩ ?_
  clear F N hWr hS₀
  rintro n m₁ news₁ h₁ tk₁ F₁ N₁ ⟨a, p₁, wvs, nW, rows, ws, ta, rfl, hm1, hm2, hm3, rfl, hrows, hS, hW, hAt, hE⟩ Wk hWk
  have hne : ∀ q ∈ rows, q.1 ≠ Wd := fun q hq => (hrows q hq).1
  have hwl : wvs.length ≤ 100 := by
    have e1 := congrArg List.length hE
    have e2 := wl_len cs.length cs
    have e3 := hW.1
    simp only [List.length_append] at e1
    omega
  walk_at "mine steps"
  -- the blanks are skipped
  refine While_M (WJ2 cs ss D Wd ((Wd, W.listOf wvs.toArray nW) :: (D, W.listOf vs.toArray nD) :: rows) a p₁) F₁ N₁ ⟨a, p₁, ta, rfl, hm1, hm2, hm3, rfl, hAt, Nat.le_refl _, rfl⟩ ?_
  clear F₁ N₁ hm1 hm2 hm3
  rintro n₂ m₂ news₂ h₂ tk₂ F₂ N₂ ⟨a₂, p₂, ta₂, rfl, hm1, hm2, hm3, rfl, hAt₂, hle, hE₂⟩ Wk₂ hWk₂
  by_cases ha : a₂ < ss.length
  · obtain ⟨one, u1, u3, n1, hx, hmem⟩ := hS.at ha
    walk_at "mine steps"
    · -- a blank is skipped
      (rename bareIn isWs _ = true => hb)
      (rename News _ _ _ _ => N₃); (rename Fr _ _ _ _ => F₃)
      obtain ⟨q1, q2⟩ := hAt₂.skip ha hb
      refine hWk₂ _ _ ⟨_, _, _, _, ss.length - (a₂ + 1), rfl, F₃, News.sub N₃ (fun q hq => .tail _ hq), by omega, a₂ + 1, p₂ + 1, _, rfl, hm1, hm2, rfl, rfl, q1, by omega, q2.symm.trans hE₂⟩
    · -- never
      exfalso
      (rename ((_ : Int) = _) => hq)
      omega
    · -- a quoted word
      (rename bareIn isWs _ = false => hb₁)
      (rename bareIn (· == 34) _ = true => hb₂)
      obtain ⟨hAt₃, hTok⟩ := hAt₂.quote ha hb₂
      clear hx hmem
      (rename News _ _ _ _ => N₃); (rename Fr _ _ _ _ => F₃)
      have hWd := hAt₂.word ha hb₁
      have hTl : (tokS (· == 34) (cs.drop (p₂ + 1))).1.length ≤ 100 := by
        have := tokS_len (· == 34) (cs.drop (p₂ + 1))
        simp only [List.length_drop] at this; omega
      refine' While_M (WJ4 cs ss D Wd ((Wd, W.listOf wvs.toArray nW) :: (D, W.listOf vs.toArray nD) :: rows) (· == 34) [Str.ofString "\""] (a₂ + 1) (p₂ + 1)) F₃ (News.sub N₃ ?hsub)
        ⟨a₂ + 1, p₂ + 1, _, _, _, _, _, rfl, hm1, hm2, rfl, rfl, rfl, rfl, ?hstr, ?hneS, hAt₃, Nat.le_refl _, ?ht1, rfl⟩ ?_
      case hsub => walk_at "mine mems"
      case hstr => first | exact four_strs | exact one_strs
      case hneS => omega
      case ht1 => simp
      clear F₃ N₃ hm1 hm2 hm3
      rintro n₄ m₄ news₄ h₄ tk₄ F₄ N₄ ⟨e, q, te, S, svs, nS, ta₃, rfl, hm1, hm2, hm3, hm4, hm5, rfl, hstr, hneS, hAt₄, hle₄, hT1, hT2⟩ Wk₄ hWk₄
      have hfl : (((ss.map (·.1)).drop (a₂ + 1)).take (e - (a₂ + 1))).flatten.length ≤ 100 := by
        have := congrArg List.length hT1
        simp only [List.length_append] at this
        omega
      have hel := hAt₄.2.2
      by_cases he : e < ss.length
      · obtain ⟨one₂, u1', u3', n1', hx₂, hmem₂⟩ := hS.at he
        walk_at "mine steps"
        · -- the stop
          (rename bareIn _ _ = true => hb₅)
          obtain ⟨r1, r2, r3, r4⟩ := hAt₄.stop he hb₅
          (rename News _ _ _ _ => N₅); (rename Fr _ _ _ _ => F₅)
          have hH : Heads _ vs (ss.map (·.1)) := Heads.of (fun q hq => (N₅ q (by k_mem)).1) hS
          have hH2 := (hH.drop (a₂ + 1)).take (e - (a₂ + 1))
          refine compAt_M (FirstOf _) rfl F₅ N₅ (.head _) (by simp only [List.length_take, List.length_drop]; omega) (fun C v s₃ m₃ E' hv _ hn hx' hk => elt_first rfl rfl (by decide) (hH2.mem v hv) hn hx' hk) ?_
          intro D₂ h₂' tk' ys k F₆ N₆ l6 hP
          have hStr := hH2.strs hP
          clear N₅ F₅
          have hne₂ : @Ne Nat D₂ Wd := Ne.symm (l6 (Wd, _) (by k_mem))
          clear l6
          walk_at "mine steps"
          (rename News _ _ _ _ => N₇); (rename Fr _ _ _ _ => F₇)
          have N₈ := words_end N₇
          rw [r2, List.append_nil] at hT1
          rw [r2] at hT2
          refine hWk _ _ ⟨_, _, _, _, ss.length + 1 - (e + 1), rfl, F₇, N₈, by omega, e + 1, q + 1, _, _, _, ws ++ [(_, ss[e].2.2)], _, rfl, hm1, hm2, rfl, rfl, ?hrows, hS.mono (fun q hq => .tail _ hq), WordsAre.push hW, r1, ?hE⟩
          case hrows => exact List.forall_mem_cons.mpr ⟨⟨neN (by omega), Nat.le_of_lt (Nat.lt_of_le_of_lt l2 (ltN (by omega)))⟩, hrows⟩
          case hE =>
            rw [← hE, ← hE₂, hWd, hTok, hT1, hT2, List.append_assoc, List.singleton_append]
            rw [r3, List.length_drop, show cs.length - (cs.length - (q + 1)) = q + 1 by omega]
        · -- a sign of the word
          (rename News _ _ _ _ => N₅); (rename Fr _ _ _ _ => F₅)
          (rename bareIn _ _ = false => hb₅)
          obtain ⟨q', r1, r2, r3⟩ := hAt₄.inside he rfl hb₅
          refine hWk₄ _ _ ⟨_, _, _, _, ss.length - (e + 1), rfl, F₅, N₅, by omega, e + 1, q', _, S, svs, nS, ta₃, rfl, hm1, hm2, hm3, rfl, hm5, rfl, hstr, hneS, r1, by omega, ?_, hT2.trans r3⟩
          rw [hT1, r2, take_next hle₄ (by simpa using he), List.flatten_append]
          simp
      · -- the text's end
        have hee : e = ss.length := by omega
        have hlast : ss.length - 1 < ss.length := by omega
        obtain ⟨one₂, u1', u3', n1', hx₂, hmem₂⟩ := hS.at hlast
        have hq := (hee ▸ hAt₄ : At cs ss ss.length q).end
        have r2 : tokS (· == 34) (cs.drop q) = ([], []) := by rw [hq, List.drop_eq_nil_of_le (Nat.le_refl _)]; rfl
        have r1 : At cs ss vs.length q := by rw [hvl, ← hee]; exact hAt₄
        have r3 : ss[ss.length - 1].2.2 = cs.length := by
          have hn : ss ≠ [] := fun z => by rw [z] at ha; simp at ha
          have := sgn_last cs 0 (hss ▸ hn)
          rw [Nat.zero_add] at this
          rw [← this, ← List.getLast_eq_getElem hn]
          congr 2
          simp only [hss]
        walk_at "mine steps"
        · (rename News _ _ _ _ => N₅); (rename Fr _ _ _ _ => F₅)
          have hH : Heads _ vs (ss.map (·.1)) := Heads.of (fun q hq => (N₅ q (by k_mem)).1) hS
          have hH2 := (hH.drop (a₂ + 1)).take (e - (a₂ + 1))
          refine compAt_M (FirstOf _) rfl F₅ N₅ (.head _) (by simp only [List.length_take, List.length_drop]; omega) (fun C v s₃ m₃ E' hv _ hn hx' hk => elt_first rfl rfl (by decide) (hH2.mem v hv) hn hx' hk) ?_
          intro D₂ h₂' tk' ys k F₆ N₆ l6 hP
          have hStr := hH2.strs hP
          clear N₅ F₅
          have hne₂ : @Ne Nat D₂ Wd := Ne.symm (l6 (Wd, _) (by k_mem))
          clear l6
          walk_at "mine steps"
          (rename News _ _ _ _ => N₇); (rename Fr _ _ _ _ => F₇)
          have N₈ := words_end N₇
          rw [r2, List.append_nil] at hT1
          rw [r2] at hT2
          refine hWk _ _ ⟨_, _, _, _, ss.length + 1 - (vs.length), rfl, F₇, N₈, by omega, vs.length, q, _, _, _, ws ++ [(_, ss[ss.length - 1].2.2)], _, rfl, hm1, hm2, rfl, rfl, ?hrows, hS.mono (fun q hq => .tail _ hq), WordsAre.push hW, r1, ?hE⟩
          case hrows => exact List.forall_mem_cons.mpr ⟨⟨neN (by omega), Nat.le_of_lt (Nat.lt_of_le_of_lt l2 (ltN (by omega)))⟩, hrows⟩
          case hE =>
            rw [← hE, ← hE₂, hWd, hTok, hT1, hT2, List.append_assoc, List.singleton_append]
            rw [r3, hq, List.drop_eq_nil_of_le (Nat.le_refl _)]; rfl
    · -- a bare word
      (rename bareIn isWs _ = false => hb₁)
      (rename bareIn (· == 34) _ = false => hb₂)
      have hTok := hAt₂.noquote ha hb₁ hb₂
      have hAt₃ := hAt₂
      clear hx hmem
      (rename News _ _ _ _ => N₃); (rename Fr _ _ _ _ => F₃)
      have hWd := hAt₂.word ha hb₁
      have hTl : (tokS isWs (cs.drop (p₂))).1.length ≤ 100 := by
        have := tokS_len isWs (cs.drop (p₂))
        simp only [List.length_drop] at this; omega
      refine' While_M (WJ4 cs ss D Wd ((Wd, W.listOf wvs.toArray nW) :: (D, W.listOf vs.toArray nD) :: rows) isWs [Str.ofString "\n", Str.ofString "\t", Str.ofString "\x0d", Str.ofString " "] a₂ p₂) F₃ (News.sub N₃ ?hsub)
        ⟨a₂, p₂, _, _, _, _, _, rfl, hm1, hm2, hm3, rfl, rfl, rfl, ?hstr, ?hneS, hAt₃, Nat.le_refl _, ?ht1, rfl⟩ ?_
      case hsub => walk_at "mine mems"
      case hstr => first | exact four_strs | exact one_strs
      case hneS => omega
      case ht1 => simp
      clear F₃ N₃ hm1 hm2 hm3
      rintro n₄ m₄ news₄ h₄ tk₄ F₄ N₄ ⟨e, q, te, S, svs, nS, ta₃, rfl, hm1, hm2, hm3, hm4, hm5, rfl, hstr, hneS, hAt₄, hle₄, hT1, hT2⟩ Wk₄ hWk₄
      have hfl : (((ss.map (·.1)).drop (a₂)).take (e - (a₂))).flatten.length ≤ 100 := by
        have := congrArg List.length hT1
        simp only [List.length_append] at this
        omega
      have hel := hAt₄.2.2
      by_cases he : e < ss.length
      · obtain ⟨one₂, u1', u3', n1', hx₂, hmem₂⟩ := hS.at he
        walk_at "mine steps"
        · -- the stop
          (rename bareIn _ _ = true => hb₅)
          obtain ⟨r1, r2, r3, r4⟩ := hAt₄.stop he hb₅
          (rename News _ _ _ _ => N₅); (rename Fr _ _ _ _ => F₅)
          have hH : Heads _ vs (ss.map (·.1)) := Heads.of (fun q hq => (N₅ q (by k_mem)).1) hS
          have hH2 := (hH.drop (a₂)).take (e - (a₂))
          refine compAt_M (FirstOf _) rfl F₅ N₅ (.head _) (by simp only [List.length_take, List.length_drop]; omega) (fun C v s₃ m₃ E' hv _ hn hx' hk => elt_first rfl rfl (by decide) (hH2.mem v hv) hn hx' hk) ?_
          intro D₂ h₂' tk' ys k F₆ N₆ l6 hP
          have hStr := hH2.strs hP
          clear N₅ F₅
          have hne₂ : @Ne Nat D₂ Wd := Ne.symm (l6 (Wd, _) (by k_mem))
          clear l6
          walk_at "mine steps"
          (rename News _ _ _ _ => N₇); (rename Fr _ _ _ _ => F₇)
          have N₈ := words_end N₇
          rw [r2, List.append_nil] at hT1
          rw [r2] at hT2
          refine hWk _ _ ⟨_, _, _, _, ss.length + 1 - (e + 1), rfl, F₇, N₈, by omega, e + 1, q + 1, _, _, _, ws ++ [(_, ss[e].2.2)], _, rfl, hm1, hm2, rfl, rfl, ?hrows, hS.mono (fun q hq => .tail _ hq), WordsAre.push hW, r1, ?hE⟩
          case hrows => exact List.forall_mem_cons.mpr ⟨⟨neN (by omega), Nat.le_of_lt (Nat.lt_of_le_of_lt l2 (ltN (by omega)))⟩, hrows⟩
          case hE =>
            rw [← hE, ← hE₂, hWd, hTok, hT1, hT2, List.append_assoc, List.singleton_append]
            rw [r3, List.length_drop, show cs.length - (cs.length - (q + 1)) = q + 1 by omega]
        · -- a sign of the word
          (rename News _ _ _ _ => N₅); (rename Fr _ _ _ _ => F₅)
          (rename bareIn _ _ = false => hb₅)
          obtain ⟨q', r1, r2, r3⟩ := hAt₄.inside he rfl hb₅
          refine hWk₄ _ _ ⟨_, _, _, _, ss.length - (e + 1), rfl, F₅, N₅, by omega, e + 1, q', _, S, svs, nS, ta₃, rfl, hm1, hm2, hm3, rfl, hm5, rfl, hstr, hneS, r1, by omega, ?_, hT2.trans r3⟩
          rw [hT1, r2, take_next hle₄ (by simpa using he), List.flatten_append]
          simp
      · -- the text's end
        have hee : e = ss.length := by omega
        have hlast : ss.length - 1 < ss.length := by omega
        obtain ⟨one₂, u1', u3', n1', hx₂, hmem₂⟩ := hS.at hlast
        have hq := (hee ▸ hAt₄ : At cs ss ss.length q).end
        have r2 : tokS isWs (cs.drop q) = ([], []) := by rw [hq, List.drop_eq_nil_of_le (Nat.le_refl _)]; rfl
        have r1 : At cs ss vs.length q := by rw [hvl, ← hee]; exact hAt₄
        have r3 : ss[ss.length - 1].2.2 = cs.length := by
          have hn : ss ≠ [] := fun z => by rw [z] at ha; simp at ha
          have := sgn_last cs 0 (hss ▸ hn)
          rw [Nat.zero_add] at this
          rw [← this, ← List.getLast_eq_getElem hn]
          congr 2
          simp only [hss]
        walk_at "mine steps"
        · (rename News _ _ _ _ => N₅); (rename Fr _ _ _ _ => F₅)
          have hH : Heads _ vs (ss.map (·.1)) := Heads.of (fun q hq => (N₅ q (by k_mem)).1) hS
          have hH2 := (hH.drop (a₂)).take (e - (a₂))
          refine compAt_M (FirstOf _) rfl F₅ N₅ (.head _) (by simp only [List.length_take, List.length_drop]; omega) (fun C v s₃ m₃ E' hv _ hn hx' hk => elt_first rfl rfl (by decide) (hH2.mem v hv) hn hx' hk) ?_
          intro D₂ h₂' tk' ys k F₆ N₆ l6 hP
          have hStr := hH2.strs hP
          clear N₅ F₅
          have hne₂ : @Ne Nat D₂ Wd := Ne.symm (l6 (Wd, _) (by k_mem))
          clear l6
          walk_at "mine steps"
          (rename News _ _ _ _ => N₇); (rename Fr _ _ _ _ => F₇)
          have N₈ := words_end N₇
          rw [r2, List.append_nil] at hT1
          rw [r2] at hT2
          refine hWk _ _ ⟨_, _, _, _, ss.length + 1 - (vs.length), rfl, F₇, N₈, by omega, vs.length, q, _, _, _, ws ++ [(_, ss[ss.length - 1].2.2)], _, rfl, hm1, hm2, rfl, rfl, ?hrows, hS.mono (fun q hq => .tail _ hq), WordsAre.push hW, r1, ?hE⟩
          case hrows => exact List.forall_mem_cons.mpr ⟨⟨neN (by omega), Nat.le_of_lt (Nat.lt_of_le_of_lt l2 (ltN (by omega)))⟩, hrows⟩
          case hE =>
            rw [← hE, ← hE₂, hWd, hTok, hT1, hT2, List.append_assoc, List.singleton_append]
            rw [r3, hq, List.drop_eq_nil_of_le (Nat.le_refl _)]; rfl
  · -- nothing is left
    have hel₂ := hAt₂.2.2
    walk_at "mine steps"
    (rename News _ _ _ _ => N₃); (rename Fr _ _ _ _ => F₃)
    have hee : a₂ = ss.length := by omega
    subst hee
    rw [hAt₂.end, List.drop_eq_nil_of_le (Nat.le_refl _), wl_none rfl] at hE₂
    rw [← hE₂, List.append_nil] at hE
    subst hE
    dsimp only
    refine hWk _ _ <| h _ _ Wd wvs nW ((D, W.listOf vs.toArray nD) :: rows) (kept_end (fun q hq => (H q hq).1) kp F₃ (fun q hq => nomatch hq)) (Has.news N₃ st fun q hq => hq) (Nat.le_of_lt (Nat.lt_of_le_of_lt l2 l6)) ?_ (hW.mono fun q hq => .tail _ hq)
    exact List.forall_mem_cons.mpr ⟨⟨Nat.le_of_lt (Nat.lt_of_le_of_lt l2 l4), neN (by omega)⟩, fun q hq => ⟨(hrows q hq).2, (hrows q hq).1⟩⟩
theorem off_19 : True := by
  w_top off
  trivial
/-- what a turn of a for must come to -/
def FStep (g : Heap) (L : Addr) (s : Shared) (I : Addr) (oI : Obj) (J : Nat → (Str → Option Value) → List (Addr × Obj) → Prop) (Q : Flow → Shared → Prop) (i : Nat) (f : Flow) (s₃ : Shared) : Prop := match f with
  | .next | .cont => ∃ h' tk m₂ news₂, s₃ = { s with heap := h', toks := tk } ∧ Fr g L h' m₂ ∧ News g L h' ((I, oI) :: news₂) ∧ (∀ q ∈ news₂, q.1 ≠ I) ∧ J (i + 1) m₂ news₂
  | .brk => Q .next s₃
  | .ret v => Q (.ret v) s₃

section
variable {w : World} {A : Around} {Q : Flow → Shared → Prop} {s : Shared} {env : Env} {g : Heap}
/-- a for over a list of the ledger -/
theorem for_list {v y : Str} {px py pos : Pos} {body : List Stmt} {l : Addr} {ks : List Value} {nl : Nat} {m : Str → Option Value} {news : List (Addr × Obj)} (J : Nat → (Str → Option Value) → List (Addr × Obj) → Prop) (hh : A.handled = none)
    (F : Fr g env.locals s.heap m) (N : News g env.locals s.heap news) (hJ : J 0 m news) (hl : ∀ i m news, J i m news → (l, W.listOf ks.toArray nl) ∈ news)
    (hy : ∀ {Q' : Value → Shared → Prop}, Q' (.ref l) s → wpAny (model pr w) A (eval (.Name y py) env) Q' (fun _ _ => False) s)
    (hv : env.kindOf v = some .local) (hke : env.scope.kind = .function)
    (hend : ∀ m₁ news₁ h₁ tk₁, J ks.length m₁ news₁ → Fr g env.locals h₁ m₁ → News g env.locals h₁ news₁ → Q .next { s with heap := h₁, toks := tk₁ })
    (turn : ∀ I oI, (∀ q ∈ news, q.1 < I) → ∀ i (hi : i < ks.length) m₁ news₁ h₁ tk₁, J i m₁ news₁ → (∀ q ∈ news₁, q.1 ≠ I) → Fr g env.locals h₁ (fun z => if z = v then some ks[i] else m₁ z) → News g env.locals h₁ ((I, oI) :: news₁) → ∀ Wk : Flow → Shared → Prop, (∀ f s₃, FStep g env.locals s I oI J Q i f s₃ → Wk f s₃) →
      wpAny (model pr w) A (execs body env) Wk (fun _ _ => False) { s with heap := h₁, toks := tk₁ }) :
    wpAny (model pr w) A (exec (.For (.Name v px) (.Name y py) body [] pos) env) Q (fun _ _ => False) s := by
  have hL₀ := N.isList (hl 0 m news hJ)
  refine wpAny_For (hy (wpAny_pyIter_list hL₀ ?_))
  obtain ⟨I, hI⟩ : ∃ I, I = s.heap.objs.size := ⟨_, rfl⟩
  rw [← hI]
  have hIl : ∀ q ∈ news, q.1 < I := fun q hq => hI ▸ Heap.lt_size (N q hq).1
  have hIL : I ≠ env.locals := hI ▸ Nat.ne_of_gt F.ns.lt
  have hIg : g.get? I = none := by
    cases e : g.get? I with
    | none => rfl
    | some o => exact absurd (Heap.lt_size (F.keep I o e)) (by rw [hI]; exact Nat.lt_irrefl _)
  let iO : Nat → Obj → Prop := fun i o => o.cls = .type "list_iterator" ∧ o.data = .fields #[.ref l, .int i 0]
  refine codeAny_forLoop (fun n s' => ∃ i m₁ news₁ h₁ tk₁ oI, n = ks.length + 1 - i ∧ i ≤ ks.length ∧ s' = { s with heap := h₁, toks := tk₁ } ∧ J i m₁ news₁ ∧ (∀ q ∈ news₁, q.1 ≠ I) ∧ iO i oI ∧ Fr g env.locals h₁ m₁ ∧ News g env.locals h₁ ((I, oI) :: news₁)) ?_ (ks.length + 1)
    ⟨0, m, news, _, s.toks, { cls := .type "list_iterator", data := .fields #[.ref l, .int 0 0] }, rfl, Nat.zero_le _, rfl, hJ, (fun q hq => Nat.ne_of_lt (hIl q hq)), ⟨rfl, rfl⟩, ?_, ?_⟩
  · rintro n s' ⟨i, m₁, news₁, h₁, tk₁, oI, rfl, hi, rfl, J₁, hne, ⟨hc, hd'⟩, F₁, N₁⟩
    have hit : h₁.IsListIter I l i := ⟨oI, (N₁ _ (.head _)).1, hc, hd'⟩
    have hls : h₁.IsList l ks.toArray := N₁.isList (.tail _ (hl i m₁ news₁ J₁))
    by_cases hlt : i < ks.length
    · refine wpAny_pyNext_list_item (x := ks[i]) hit hls (by simp [hlt]) fun h₂ hit₂ sb => ?_
      obtain ⟨o₂, ho₂, hc₂, hd₂⟩ := hit₂
      have F₂ : Fr g env.locals h₂ m₁ := ⟨F₁.ns.at' fun o e => (sb.2 _ (Ne.symm hIL)).trans e, fun b o e => (sb.2 b (fun q => by rw [q, hIg] at e; cases e)).trans (F₁.keep b o e), F₁.above⟩
      have N₂ : News g env.locals h₂ ((I, o₂) :: news₁) := fun q hq => by
        rcases List.mem_cons.mp hq with rfl | hq
        · exact ⟨ho₂, hIL, hIg⟩
        · exact ⟨(sb.2 _ (hne q hq)).trans (N₁ q (.tail _ hq)).1, (N₁ q (.tail _ hq)).2⟩
      refine wpAny_mono (Q := fun _ s₂ => wpAny (model pr w) A (execs body env) (FStep g env.locals s I o₂ J Q i) (fun _ _ => False) s₂) (E := fun _ _ => False) ?_ (fun _ s₂ h₂ => wpAny_mono h₂ (fun f s₃ h₃ => ?_) fun _ _ z => z.elim) fun _ _ z => z.elim
      · refine wpAny_assign_Name (wpAny_storeName_local hv F₂.ns (fun h₃ hn hsb => ?_) (by rw [hke]; rfl))
        exact turn I o₂ hIl i hlt m₁ news₁ h₃ _ J₁ hne (F₂.set hn hsb) (N₂.set hsb) _ fun _ _ z => z
      · have fin : (∃ h' tk m₂ news₂, s₃ = { s with heap := h', toks := tk } ∧ Fr g env.locals h' m₂ ∧ News g env.locals h' ((I, o₂) :: news₂) ∧ (∀ q ∈ news₂, q.1 ≠ I) ∧ J (i + 1) m₂ news₂) →
            ∃ n', n' < ks.length + 1 - i ∧ ∃ i m₁ news₁ h₁ tk₁ oI, n' = ks.length + 1 - i ∧ i ≤ ks.length ∧ s₃ = { s with heap := h₁, toks := tk₁ } ∧ J i m₁ news₁ ∧ (∀ q ∈ news₁, q.1 ≠ I) ∧ iO i oI ∧ Fr g env.locals h₁ m₁ ∧ News g env.locals h₁ ((I, oI) :: news₁) := by
          rintro ⟨h', tk, m₂, news₂, rfl, F₃, N₃, hne₃, J₃⟩
          exact ⟨ks.length + 1 - (i + 1), by omega, i + 1, m₂, news₂, h', tk, o₂, rfl, hlt, rfl, J₃, hne₃, ⟨hc₂, hd₂⟩, F₃, N₃⟩
        cases f with
        | next => exact fin h₃
        | cont => exact fin h₃
        | brk => exact h₃
        | ret v => exact h₃
    · have hie : i = ks.length := by omega
      subst hie
      refine wpAny_pyNext_list_end hh hit hls (by simp) fun h₂ eb => ?_
      refine wpAny_execs_nil (hend m₁ news₁ h₂ tk₁ J₁ ?_ ?_)
      · exact ⟨F₁.ns.at' fun o e => eb _ _ (Ne.symm hIL) e, fun b o e => eb b o (fun q => by rw [q, hIg] at e; cases e) (F₁.keep b o e), F₁.above⟩
      · exact fun q hq => ⟨eb _ _ (hne q hq) (N₁ q (.tail _ hq)).1, (N₁ q (.tail _ hq)).2⟩
  · exact ⟨F.ns.at' fun o e => Heap.get?_push_of_some _ e, fun b o e => Heap.get?_push_of_some _ (F.keep b o e), F.above⟩
  · intro q hq
    rcases List.mem_cons.mp hq with rfl | hq
    · exact ⟨by rw [hI]; exact Heap.get?_push_size _ rfl, hIL, hIg⟩
    · exact ⟨Heap.get?_push_of_some _ (N q hq).1, (N q hq).2⟩
end

theorem KeptH.news2 {g h h' : Heap} {L a b : Addr} {oa ob oa' ob' : Obj} {news : List (Addr × Obj)} {gf1 : Obj → List (Addr × Obj)} {gf2 : Obj → Obj → List (Addr × Obj)} (k : KeptH [a, b] h h') (U1 : UpdF a oa news gf1) (U2 : ∀ o, UpdF b ob (gf1 o) (gf2 o))
    (N : News g L h news) (ea : h'.get? a = some oa') (eb : h'.get? b = some ob') : News g L h' (gf2 oa' ob') := by
  obtain ⟨own, rest, rfl, hg, h1, h2⟩ := U1.split
  obtain ⟨own2, rest2, e2, hg2, h3, h4⟩ := (U2 oa').split
  obtain ⟨own3, rest3, e3, hg3, h5, h6⟩ := (U2 oa).split
  have hma := N (a, oa) (List.mem_append_right _ (.head _))
  have hmb : (b, ob) ∈ own ++ (a, oa) :: rest := by
    rw [← hg oa, e3]; exact List.mem_append_right _ (.head _)
  have old : ∀ q, q ∈ own2 ∨ q ∈ rest2 → q.1 ≠ b → h'.get? q.1 = some q.2 ∧ q.1 ≠ L ∧ g.get? q.1 = none := fun q hq hb => by
    have hq' : q ∈ own ++ (a, oa') :: rest := by
      rw [← hg oa', e2]
      rcases hq with hq | hq
      · exact List.mem_append_left _ hq
      · exact List.mem_append_right _ (.tail _ hq)
    have st : ∀ r, r ∈ own ++ (a, oa) :: rest → r.1 ≠ a → r.1 ≠ b → h'.get? r.1 = some r.2 ∧ r.1 ≠ L ∧ g.get? r.1 = none := fun r hr ha hb' =>
      ⟨k _ _ (N r hr).1 (by simp only [List.mem_cons, List.not_mem_nil, or_false, not_or]; exact ⟨ha, hb'⟩), (N r hr).2⟩
    rcases List.mem_append.mp hq' with hq' | hq'
    · exact st q (List.mem_append_left _ hq') (h1 q hq') hb
    · rcases List.mem_cons.mp hq' with rfl | hq'
      · exact ⟨ea, hma.2⟩
      · exact st q (List.mem_append_right _ (.tail _ hq')) (h2 q hq') hb
  rw [hg2 ob']
  intro q hq
  rcases List.mem_append.mp hq with hq | hq
  · exact old q (.inl hq) (h3 q hq)
  · rcases List.mem_cons.mp hq with rfl | hq
    · exact ⟨eb, (N _ hmb).2⟩
    · exact old q (.inr hq) (h4 q hq)
theorem updF_mem {d : Addr} {o : Obj} {news : List (Addr × Obj)} {gf : Obj → List (Addr × Obj)} (U : UpdF d o news gf) : (d, o) ∈ news := by
  obtain ⟨own, rest, rfl, _⟩ := U.split
  exact List.mem_append_right _ (.head _)

section
variable {w : World} {A : Around} {s : Shared} {E : Value → Shared → Prop} {g₀ g : Heap} {L : Addr} {m mg mb : Str → Option Value} {p : Program} {loose : List Str} {mean : ExcName → Option Value} {news : List (Addr × Obj)} {Q : Value → Shared → Prop}
  {cs : List Nat} {C : Cfg} {i npb t1 t2 t3 t4 tn tw tp np : Nat}

/-- get_token from a frame, nothing pushed back -/
theorem tok_M {gf1 : Obj → List (Addr × Obj)} {gf2 : Obj → Obj → List (Addr × Obj)} (htx : cs.length ≤ 100) (X : (hd.heap_39 w.params).In g₀) (T : Top p loose mean mg mb g₀) (hst : g₀.StaysIn g) (hA : AOk 440 A) (O : C.Ord) (rd : Reader w g₀ cs C.f C.P C.rs) (hi : i ≤ cs.length)
    (F : Fr g L s.heap m) (N : News g L s.heap news)
    (U1 : UpdF C.dl (dictOf (lexD w t1 t2 t3 t4 (1 + ((cs.take i).count 10 : Nat)) tn (.ref C.src) tw C.pb) 4) news gf1) (U2 : ∀ o, UpdF C.P (W.listOf #[.int (i : Int) tp] np) (gf1 o) (gf2 o))
    (hr : ∀ q ∈ lexRows w C t1 t2 t3 t4 tn tw tp np (1 + ((cs.take i).count 10 : Nat)) i, q ∈ news) (hp : (C.pb, W.listOf #[] npb) ∈ news)
    (h : ∀ h' tk tr t1 t2 t3 t4 tn tw tp np, Fr g L h' m → News g L h' (gf2 (dictOf (lexD w t1 t2 t3 t4 (1 + ((cs.take (cs.length - (tok (cs.drop i)).2.length)).count 10 : Nat)) tn (.ref C.src) tw C.pb) 4) (W.listOf #[.int ((cs.length - (tok (cs.drop i)).2.length : Nat) : Int) tp] np)) →
      Q (.str (mkS (tok (cs.drop i)).1) tr) { s with heap := h', toks := tk }) :
    wpAny (model pr w) A (call (.ref 42) [.ref C.lx]) Q E s := by
  refine wpAny_call (tok_spec htx X T (fun b o e => F.keep b o (hst b o e)) hA O rd ⟨t1, t2, t3, t4, tn, tw, tp, np, Has.news N hst hr⟩ hi (npb := npb) (Has.news N hst fun q hq => ?_) ?_)
  · rcases List.mem_cons.mp hq with rfl | hq
    · exact hp
    · cases hq
  intro h' tk tr k l
  obtain ⟨v1, v2, v3, v4, vn, vw, vp, mp, H⟩ := l
  have hdl := N _ (updF_mem U1)
  have hP := N (C.P, _) (hr _ (.tail _ (.tail _ (.tail _ (.tail _ (.head _))))))
  refine h h' tk tr v1 v2 v3 v4 vn vw vp mp (k.fr F ?_ ?_) (k.news2 U1 U2 N (H _ (.tail _ (.head _))).1 (H _ (.tail _ (.tail _ (.tail _ (.tail _ (.head _)))))).1)
  · simp only [List.mem_cons, List.not_mem_nil, or_false, not_or]
    exact ⟨Ne.symm hdl.2.1, Ne.symm hP.2.1⟩
  · simp only [List.mem_cons, List.not_mem_nil, or_false]
    rintro a (rfl | rfl)
    · exact hdl.2.2
    · exact hP.2.2

/-- get_token from a frame, a word pushed back -/
theorem pop_M {gf : Obj → List (Addr × Obj)} {v : Value} {vs : List Value} (hvs : vs.length ≤ 1000) (X : (hd.heap_39 w.params).In g) (T : Top p loose mean mg mb g) (hA : AOk 440 A) (O : C.Ord)
    (F : Fr g L s.heap m) (N : News g L s.heap news) (U : UpdF C.pb (W.listOf (v :: vs).toArray npb) news gf)
    (hcx : cs.length ≤ 100) (hcP : (C.P, W.listOf #[.int (i : Int) tp] np) ∈ news) {n : Int} (hcD : (C.dl, dictOf (lexD w t1 t2 t3 t4 n tn (.ref C.src) tw C.pb) 4) ∈ news) (hcn : n = 1 + ((cs.take i).count 10 : Nat))
    (hr : ∀ q ∈ lexRows w C t1 t2 t3 t4 tn tw tp np (1 + ((cs.take i).count 10 : Nat)) i, q ∈ news)
    (h : ∀ h' tk n', Fr g L h' m → News g L h' (gf (W.listOf vs.toArray n')) → Q v { s with heap := h', toks := tk }) :
    wpAny (model pr w) A (call (.ref 42) [.ref C.lx]) Q E s := by
  refine wpAny_call (pop_spec (v := v) (cs := cs) (i := i) (npb := npb) hvs X T F.keep hA O ⟨t1, t2, t3, t4, tn, tw, tp, np, Has.news N (fun _ _ e => e) hr⟩ (Has.news N (fun _ _ e => e) fun q hq => ?_) ?_)
  · rcases List.mem_cons.mp hq with rfl | hq
    · exact updF_mem U
    · cases hq
  intro h' tk n' k e
  exact h h' tk n' (k.frF U N F) (k.newsF U N e)

/-- push_token from a frame -/
theorem push_M {gf : Obj → List (Addr × Obj)} {v : Value} {vs : List Value} (hvs : vs.length ≤ 1000) (X : (hd.heap_39 w.params).In g) (T : Top p loose mean mg mb g) (hA : AOk 440 A) (O : C.Ord)
    (F : Fr g L s.heap m) (N : News g L s.heap news) (U : UpdF C.pb (W.listOf vs.toArray npb) news gf)
    (hcx : cs.length ≤ 100) (hcP : (C.P, W.listOf #[.int (i : Int) tp] np) ∈ news) {n : Int} (hcD : (C.dl, dictOf (lexD w t1 t2 t3 t4 n tn (.ref C.src) tw C.pb) 4) ∈ news) (hcn : n = 1 + ((cs.take i).count 10 : Nat))
    (hr : ∀ q ∈ lexRows w C t1 t2 t3 t4 tn tw tp np (1 + ((cs.take i).count 10 : Nat)) i, q ∈ news)
    (h : ∀ h' tk n', Fr g L h' m → News g L h' (gf (W.listOf (vs ++ [v]).toArray n')) → Q .none { s with heap := h', toks := tk }) :
    wpAny (model pr w) A (call (.ref 49) [.ref C.lx, v]) Q E s := by
  refine wpAny_call (push_spec (v := v) (cs := cs) (i := i) (npb := npb) hvs X T F.keep hA O ⟨t1, t2, t3, t4, tn, tw, tp, np, Has.news N (fun _ _ e => e) hr⟩ (Has.news N (fun _ _ e => e) fun q hq => ?_) ?_)
  · rcases List.mem_cons.mp hq with rfl | hq
    · exact updF_mem U
    · cases hq
  intro h' tk n' k e
  exact h h' tk n' (k.frF U N F) (k.newsF U N e)

theorem words_M {tt : Nat} (htx : cs.length ≤ 100) (X : (hd.heap_39 w.params).In g) (T : Top p loose mean mg mb g) (hA : AOk 420 A) (F : Fr g L s.heap m) (N : News g L s.heap news)
    (h : ∀ h' tk D vs n rows, Fr g L h' m → News g L h' ((D, W.listOf vs.toArray n) :: (rows ++ news)) → (∀ q ∈ news, q.1 < D) → (∀ q ∈ rows, q.1 ≠ D ∧ ∀ r ∈ news, r.1 < q.1) → L < D → WordsAre rows vs (wl cs.length cs) → Q (.ref D) { s with heap := h', toks := tk }) :
    wpAny (model pr w) A (call (.ref 82) [.str (mkS cs) tt]) Q E s := by
  refine wpAny_call (words_spec htx X T F.keep hA ?_)
  intro h' tk D vs n rows k H hD hr hS
  have hLs : L < s.heap.objs.size := F.ns.lt
  refine h h' tk D vs n rows (k.fr0 F) ?_ (fun q hq => Nat.lt_of_lt_of_le (Heap.lt_size (N q hq).1) hD) (fun q hq => ⟨(hr q hq).2, fun r hr' => Nat.lt_of_lt_of_le (Heap.lt_size (N r hr').1) (hr q hq).1⟩) (Nat.lt_of_lt_of_le hLs hD) hS
  intro q hq
  rcases List.mem_cons.mp hq with rfl | hq
  · exact ⟨(H _ (.head _)).1, Nat.ne_of_gt (Nat.lt_of_lt_of_le hLs hD), (H _ (.head _)).2⟩
  · rcases List.mem_append.mp hq with hq | hq
    · exact ⟨(H q (.tail _ hq)).1, Nat.ne_of_gt (Nat.lt_of_lt_of_le hLs (hr q hq).1), (H q (.tail _ hq)).2⟩
    · exact k.news0 N q hq
end

/-- the words that the law pushes back -/
abbrev W3 : List Str := [Str.ofString "", Str.ofString "machine", Str.ofString "p q"]
theorem readsAll_texts {h : Heap} : ∀ {vs : List Value} {ys : List Str}, StrsAre vs ys → ReadsAll h vs (ys.map PyData.str) []
  | _, _, .nil => .nil
  | _, _, .cons k t r => by
    have := ReadsAll.cons (Reads.str (h := h) k t) (readsAll_texts (h := h) r)
    simpa using this
theorem reads_texts {h : Heap} {a : Addr} {vs : List Value} {ys : List Str} (hl : h.IsList a vs.toArray) (hi : StrsAre vs ys) : Reads h (.ref a) (.list (ys.map PyData.str)) [a] := by
  obtain ⟨o, ho, hc, n, hd⟩ := hl
  exact Reads.list ho hc hd (by simpa using readsAll_texts hi)
theorem W3_ok : ∀ y ∈ W3, PyData.canLay0 (.str y) = true := by decide +kernel
theorem canLayAll0_texts : ∀ ys : List Str, (∀ y ∈ ys, y ∈ W3) → PyData.canLayAll0 (ys.map PyData.str) = true
  | [], _ => by simp [PyData.canLayAll0]
  | y :: r, h => by
    have h1 := W3_ok y (h y (.head _))
    have h2 := canLayAll0_texts r fun z hz => h z (.tail _ hz)
    simp only [List.map_cons, PyData.canLayAll0, h1, h2, Bool.and_self]
theorem depthAll_texts : ∀ ys : List Str, PyData.depthAll (ys.map PyData.str) ≤ 1
  | [] => by simp [PyData.depthAll]
  | n :: r => by
    have := depthAll_texts r
    simp only [List.map_cons, PyData.depthAll, PyData.depth]
    omega
theorem shaped_texts (ys : List Str) (h : ∀ y ∈ ys, y ∈ W3) : PySem.SeqAt.shaped (.list (ys.map PyData.str)) = true := by
  have h1 := depthAll_texts ys
  have h2 : PyData.depth (.list (ys.map PyData.str)) ≤ 64 := by simp only [PyData.depth]; omega
  show (PyData.canLay0 (.list (ys.map PyData.str)) && decide (PyData.depth (.list (ys.map PyData.str)) ≤ 64)) = true
  rw [Bool.and_eq_true]
  exact ⟨by simp only [PyData.canLay0]; exact canLayAll0_texts ys h, decide_eq_true h2⟩
open PySem.SeqAt PySem.Spec in
theorem noMix_texts : ∀ ys zs : List Str, noMixAll (ys.map PyData.str) (zs.map PyData.str) = true
  | [], [] => by simp [noMixAll]
  | [], _ :: _ => by simp [noMixAll]
  | _ :: _, [] => by simp [noMixAll]
  | _ :: r, _ :: q => by simp [noMixAll, noMix, noMix_texts r q]
theorem same_texts : ∀ ys zs : List Str, PySem.Spec.sameAll (ys.map PyData.str) (zs.map PyData.str) = decide (ys = zs)
  | [], [] => by simp [PySem.Spec.sameAll]
  | [], _ :: _ => by simp [PySem.Spec.sameAll]
  | _ :: _, [] => by simp [PySem.Spec.sameAll]
  | n :: r, k :: q => by
    simp only [List.map_cons, PySem.Spec.sameAll, PySem.Spec.same, same_texts r q]
    by_cases h : n = k <;> simp [h]
/-- the list's items are such words -/
def Pw (vs : List Value) (ys : List Str) : Prop := StrsAre vs ys ∧ ∀ y ∈ ys, y ∈ W3
theorem Pw.nil : Pw [] [] := ⟨.nil, fun _ h => nomatch h⟩
theorem Pw.tail {v : Value} {vs : List Value} {ys : List Str} (h : Pw (v :: vs) ys) : ∃ y t r, v = .str y t ∧ ys = y :: r ∧ y ∈ W3 ∧ Pw vs r := by
  obtain ⟨h1, h2⟩ := h
  cases h1 with
  | cons y t r => exact ⟨y, t, _, rfl, rfl, h2 y (.head _), r, fun z hz => h2 z (.tail _ hz)⟩
theorem Pw.push : ∀ {vs : List Value} {ys : List Str} {y : Str} {t : Tok}, Pw vs ys → y ∈ W3 → Pw (vs ++ [.str y t]) (ys ++ [y]) := by
  intro vs ys y t h hy
  obtain ⟨h1, h2⟩ := h
  refine ⟨?_, fun z hz => ?_⟩
  · clear h2
    induction h1 with
    | nil => exact .cons _ _ .nil
    | cons a b r ih => exact .cons _ _ ih
  · rcases List.mem_append.mp hz with hz | hz
    · exact h2 z hz
    · rw [List.mem_singleton] at hz; subst hz; exact hy
theorem Pw.length {vs : List Value} {ys : List Str} (h : Pw vs ys) : vs.length = ys.length := by
  obtain ⟨h1, h2⟩ := h
  clear h2
  induction h1 with
  | nil => rfl
  | cons a b r ih => simp [ih]

section
variable {prog : Program} {w : World} {A : Around} {E : Value → Shared → Prop} {s : Shared} {g : Heap} {L : Addr} {m : Str → Option Value} {news : List (Addr × Obj)}
open PySem.SeqAt PySem.Spec in
theorem ne_texts {a b : Addr} {vs us : List Value} {n k : Nat} {ys zs : List Str} {Q : Value → Shared → Prop} (N : News g L s.heap news) (ha : (a, W.listOf vs.toArray n) ∈ news) (hi : Pw vs ys) (hb : (b, W.listOf us.toArray k) ∈ news) (hi' : Pw us zs) (hu : A.units + 64 < cLine)
    (h : Q (.bool (!decide (ys = zs))) s) : wpAny (model prog w) A (compareOp .NotEq (.ref a) (.ref b)) Q E s :=
  ne_dataH_same (reads_texts (N.isList ha) hi.1) (reads_texts (N.isList hb) hi'.1) (shaped_texts ys hi.2) (shaped_texts zs hi'.2) hu (by simp only [noMix]; exact noMix_texts ys zs) (by simp only [PySem.Spec.same]; rw [same_texts]; exact h)
theorem addL_M {l b : Addr} {vs us : List Value} {n k : Nat} {Q : Value → Shared → Prop} (F : Fr g L s.heap m) (N : News g L s.heap news) (hl : (l, W.listOf vs.toArray n) ∈ news) (hb : (b, W.listOf us.toArray k) ∈ news) (hz : vs.length + us.length ≤ 100000)
    (h : ∀ D h', Fr g L h' m → News g L h' ((D, W.listOf (vs ++ us).toArray 0) :: news) → (∀ q ∈ news, q.1 < D) → L < D → Q (.ref D) { s with heap := h' }) :
    wpAny (model prog w) A (binaryOp .Add (.ref l) (.ref b)) Q E s :=
  add_arrays F N (N.isList hl) (N.isList hb) (fun h' F' N' => h _ h' F' (by simpa using N') (fun q hq => Heap.lt_size (N q hq).1) F.ns.lt) (by simp [sizeLine_eq]; omega)
theorem tail_M {value slice : PySem.Expr} {l : Addr} {v : Value} {vs : List Value} {n : Nat} {t : Tok} {Q : Value → Shared → Prop} (F : Fr g L s.heap m) (N : News g L s.heap news) (hm : (l, W.listOf (v :: vs).toArray n) ∈ news) (hz : vs.length ≤ 10000)
    (h : ∀ D h', Fr g L h' m → News g L h' ((D, W.listOf vs.toArray 0) :: news) → (∀ p ∈ news, p.1 < D) → Q (.ref D) { s with heap := h' })
    (hs : subscripted slice false (.ref l) (.ref s.heap.objs.size) = operate [.ref s.heap.objs.size, .ref l] (getItem (.ref l) (.ref s.heap.objs.size))) (ht : ∀ r, letTemporaryGo value (.ref l) r = pure ()) :
    wpAny (model pr w) A (subscriptTail value slice (.ref l) (.ref s.heap.objs.size)) Q E { s with heap := s.heap.push { cls := .type "slice", data := .fields #[.int 1 t, .none, .none] } } := by
  refine kmk_slice F N (N.isList hm) (.int _ _) .none (fun D h' F' N' l1 => h D h' F' ?_ l1) hs ht (by simp [sizeLine_eq]; omega)
  rw [show (1 : Int) = ((1 : Nat) : Int) from rfl, slicePick_from _ 1 (by simp)] at N'
  simpa using N'
end
theorem off_20 : True := by
  w_top off
  trivial
section
variable {w : World} {A : Around} {s : Shared} {E : Value → Shared → Prop} {g : Heap} {L : Addr} {m mg mb : Str → Option Value} {p : Program} {loose : List Str} {mean : ExcName → Option Value} {news : List (Addr × Obj)} {Q : Value → Shared → Prop} {cs : List Nat}
theorem file_M {gf : Obj → List (Addr × Obj)} {tt : Nat} (htx : cs.length ≤ 100) (X : (hd.heap_39 w.params).In g) (T : Top p loose mean mg mb g) (hA : AOk 480 A) (hC : CodeHd g 62 58) (F : Fr g L s.heap m) (N : News g L s.heap news)
    (U : UpdF 58 (tabObj #[]) news gf)
    (h : ∀ h' tk l x d b f c P cP cT (fd : FuncData) (oc oP oT : Obj) t0 t1 t2 t3 t4 t5 tn tw ps, Fr g L h' m →
      News g L h' ((l, tup [.ref x, .ref P] 0) :: (x, instObj 52 d) :: (d, dictOf (srcD w t1 t2 t3 t4 t5 1 tn .none tw b f) 5) :: (f, fnObj fd) :: (c, oc) :: (P, W.listOf #[.int 0 t0] 0) :: (cP, oP) :: (cT, oT) :: gf (tabObj ps)) →
      Reader w g cs f P [(f, fnObj fd), (c, oc), (cP, oP), (cT, oT)] → (∀ q ∈ news, q.1 < cT) → L < cT → cT < cP → cP < P → P < c → c < f → f < d → d < x → x < l →
      Q (.ref l) { s with heap := h', toks := tk }) :
    wpAny (model pr w) A (call (.ref 63) [.str (mkS cs) tt]) Q E s := by
  refine wpAny_call (file_spec htx X T F.keep hA hC (Has.news N (fun _ _ e => e) fun q hq => ?_) ?_)
  · rcases List.mem_cons.mp hq with rfl | hq
    · exact updF_mem U
    · cases hq
  intro h' tk l x d b f c P cP cT fd oc oP oT t0 t1 t2 t3 t4 t5 tn tw ps k H rd hs o1 o2 o3 o4 o5 o6 o7
  have hL : L < cT := Nat.lt_of_lt_of_le F.ns.lt hs
  refine h h' tk l x d b f c P cP cT fd oc oP oT t0 t1 t2 t3 t4 t5 tn tw ps (k.frF U N F) ?_ rd (fun q hq => Nat.lt_of_lt_of_le (Heap.lt_size (N q hq).1) hs) hL o1 o2 o3 o4 o5 o6 o7
  have N₂ := k.newsF (o' := tabObj ps) U N (H (58, tabObj ps) (by simp)).1
  have own : ∀ q, q ∈ [(l, tup [.ref x, .ref P] 0), (x, instObj 52 d), (d, dictOf (srcD w t1 t2 t3 t4 t5 1 tn .none tw b f) 5), (f, fnObj fd), (c, oc), (P, W.listOf #[.int 0 t0] 0), (cP, oP), (cT, oT), (58, tabObj ps)] → L < q.1 → h'.get? q.1 = some q.2 ∧ q.1 ≠ L ∧ g.get? q.1 = none :=
    fun q hq hl => ⟨(H q hq).1, Nat.ne_of_gt hl, (H q hq).2⟩
  replace hL := ltN hL; replace o1 := ltN o1; replace o2 := ltN o2; replace o3 := ltN o3; replace o4 := ltN o4; replace o5 := ltN o5; replace o6 := ltN o6; replace o7 := ltN o7
  refine List.forall_mem_cons.mpr ⟨own _ (by simp) (ltN (by omega)), List.forall_mem_cons.mpr ⟨own _ (by simp) (ltN (by omega)), List.forall_mem_cons.mpr ⟨own _ (by simp) (ltN (by omega)), List.forall_mem_cons.mpr ⟨own _ (by simp) (ltN (by omega)),
    List.forall_mem_cons.mpr ⟨own _ (by simp) (ltN (by omega)), List.forall_mem_cons.mpr ⟨own _ (by simp) (ltN (by omega)), List.forall_mem_cons.mpr ⟨own _ (by simp) (ltN (by omega)), List.forall_mem_cons.mpr ⟨own _ (by simp) (ltN (by omega)), N₂⟩⟩⟩⟩⟩⟩⟩⟩
/-- one of the three words -/
theorem item_3 {value slice : Expr} {l : Addr} {n : Nat} {k : Int} {u t1 t2 t3 : Tok}
    (N : News g L s.heap news) (hm : (l, W.listOf #[.str (Str.ofString "") t1, .str (Str.ofString "machine") t2, .str (Str.ofString "p q") t3] n) ∈ news) (h0 : 0 ≤ k) (hhi : k < 3) (h : ∀ y t, y ∈ W3 → Q (.str y t) s)
    (hs : subscripted slice false (.ref l) (.int k u) = operate [.ref l, .int k u] (getItem (.ref l) (.int k u))) :
    wpAny (model pr w) A (subscriptTail value slice (.ref l) (.int k u)) Q E s := by
  have hk : k = 0 ∨ k = 1 ∨ k = 2 := by omega
  rcases hk with rfl | rfl | rfl
  · exact item_M (its := [.str (Str.ofString "") t1, .str (Str.ofString "machine") t2, .str (Str.ofString "p q") t3]) N hm (by decide) (by decide) rfl (h _ _ (by simp [W3])) hs
  · exact item_M (its := [.str (Str.ofString "") t1, .str (Str.ofString "machine") t2, .str (Str.ofString "p q") t3]) N hm (by decide) (by decide) rfl (h _ _ (by simp [W3])) hs
  · exact item_M (its := [.str (Str.ofString "") t1, .str (Str.ofString "machine") t2, .str (Str.ofString "p q") t3]) N hm (by decide) (by decide) rfl (h _ _ (by simp [W3])) hs
end
theorem cnt_eq (c : Nat) : ∀ l : List Nat, PyProof.Rows.cnt c l = l.count c
  | [] => rfl
  | x :: r => by
    rw [PyProof.Rows.cnt_cons, cnt_eq c r, List.count_cons]
    by_cases h : x = c <;> simp [h]
    all_goals omega
theorem slice_to (cs : List Nat) {p : Nat} (hp : p ≤ cs.length) : Txt.slice (mkS cs) none (some (p : Int)) = mkS (cs.take p) := by
  have := StrLaws.sliceText_to (x := mkS cs) (j := (p : Int)) ⟨by omega, by simpa using hp⟩
  exact this.trans (by simp)
theorem rows_count (cs : List Nat) {p : Nat} (hp : p ≤ cs.length) : Txt.count (Txt.slice (mkS cs) none (some (p : Int))) (Str.ofString "\n") = (cs.take p).count 10 := by
  rw [slice_to cs hp, nl_eq, PyProof.Rows.count_cnt, cnt_eq]
/-- the ledger of the loop of _law_run -/
abbrev runRows (w : World) (C : Cfg) (cs : List Nat) (D stp : Addr) (oD oS oT : Obj) (rows : List (Addr × Obj)) (Wt : Addr) (oW oB : Obj) (t1 t2 t3 t4 tn tw tp np p : Nat) : List (Addr × Obj) :=
  (Wt, oW) :: (C.pb, oB) :: (C.lx, instObj 52 C.dl) :: (C.dl, dictOf (lexD w t1 t2 t3 t4 (1 + ((cs.take p).count 10 : Nat)) tn (.ref C.src) tw C.pb) 4) :: (C.src, instObj 52 C.ds) :: (C.ds, dictOf (srcD w C.u1 C.u2 C.u3 C.u4 C.u5 1 C.un .none C.uw C.sb C.f) 5) ::
   (C.P, W.listOf #[.int (p : Int) tp] np) :: (C.f, fnObj C.fd) :: (C.c, C.oc) :: (C.cP, C.oP) :: (C.cT, C.oT) :: (D, oD) :: (stp, oS) :: (58, oT) :: rows
theorem run_ne {w : World} {C : Cfg} {cs : List Nat} {D stp I Wt Wt' : Addr} {oD oS oT oW oB oW' oB' : Obj} {rows : List (Addr × Obj)} {t1 t2 t3 t4 tn tw tp np p t1' t2' t3' t4' tn' tw' tp' np' p' : Nat}
    (hne : ∀ q ∈ runRows w C cs D stp oD oS oT rows Wt oW oB t1 t2 t3 t4 tn tw tp np p, q.1 ≠ I) (hW : @Ne Nat Wt' I) : ∀ q ∈ runRows w C cs D stp oD oS oT rows Wt' oW' oB' t1' t2' t3' t4' tn' tw' tp' np' p', q.1 ≠ I := by
  simp only [runRows, List.forall_mem_cons] at hne ⊢
  exact ⟨hW, hne.2⟩
/-- how far the steps have come: while words may be pushed, at most as many wait as steps went; behind, each step takes one -/
def Far (n0 W i a tk : Nat) : Prop := (i ≤ n0 → a ≤ i) ∧ (n0 ≤ i → a + (W - tk) + (i - n0) ≤ n0 + W ∨ (a = 0 ∧ tk = W))
/-- the state of the loop of _law_run -/
inductive RunJ (w : World) (C : Cfg) (cs : List Nat) (D stp : Addr) (oD oS oT : Obj) (rows : List (Addr × Obj)) (n0 : Nat) (i : Nat) (m : Str → Option Value) (news : List (Addr × Obj)) : Prop
  | mk (p tk npb nW : Nat) (Wt : Addr) (vs : List Value) (ys : List Str) (t1 t2 t3 t4 tn tw tp np ta tt tx : Nat)
    (h1 : m (Str.ofString "text") = some (.str (mkS cs) tx)) (h2 : m (Str.ofString "place") = some (.ref C.P)) (h3 : m (Str.ofString "lexer") = some (.ref C.lx)) (h4 : m (Str.ofString "words") = some (.ref D)) (h5 : m (Str.ofString "taken") = some (.int (tk : Int) tt))
    (h6 : m (Str.ofString "at") = some (.int (p : Int) ta)) (h7 : m (Str.ofString "waiting") = some (.ref Wt))
    (hn : news = runRows w C cs D stp oD oS oT rows Wt (W.listOf vs.toArray nW) (W.listOf vs.toArray npb) t1 t2 t3 t4 tn tw tp np p)
    (hP : Pw vs ys) (hW : C.pb < Wt) (hp : p ≤ cs.length) (ht : tk ≤ (wl cs.length cs).length) (hE : (wl cs.length cs).drop tk = wl cs.length (cs.drop p)) (hF : Far n0 (wl cs.length cs).length i vs.length tk) : RunJ w C cs D stp oD oS oT rows n0 i m news
theorem IntsAre.at : ∀ {vs : List Value} {ns : List Int}, IntsAre vs ns → ∀ (i : Nat) (hi : i < vs.length) (hi' : i < ns.length), ∃ t, vs[i] = .int ns[i] t
  | _, _, .nil, i, hi, _ => absurd hi (Nat.not_lt_zero i)
  | _, _, .cons k t r, 0, _, _ => ⟨t, rfl⟩
  | _, _, .cons k t r, i + 1, hi, hi' => IntsAre.at r i (by simpa using hi) (by simpa using hi')
section
variable {prog : Program} {w : World} {A : Around} {E : Value → Shared → Prop} {s : Shared}
theorem ne_int_no {a b : Int} {t u : Tok} {Q : Value → Shared → Prop} (hab : a = b) (h : Q (.bool false) s) : wpAny (model prog w) A (compareOp .NotEq (.int a t) (.int b u)) Q E s := by
  refine PyProof.Rows.ne_int ?_
  rw [hab]; simpa using h
theorem ne_str_no {a b : Str} {t u : Tok} {Q : Value → Shared → Prop} (hab : a = b) (h : Q (.bool false) s) : wpAny (model prog w) A (compareOp .NotEq (.str a t) (.str b u)) Q E s := by
  refine PyProof.Rows.ne_str ?_
  rw [hab]; simpa using h
end
theorem wl_next {n tk : Nat} {l : List Nat} {WS : List (List Nat × Nat)} (hE : WS.drop tk = wl n l) (h : tk < WS.length) : WS[tk] = ((tok l).1, n - (tok l).2.length) ∧ WS.drop (tk + 1) = wl n (tok l).2 := by
  have hd := List.drop_eq_getElem_cons h
  rw [hE] at hd
  cases ha : l.all isWs with
  | true => rw [wl_none ha] at hd; cases hd
  | false =>
    rw [wl_some ha] at hd
    injection hd with h1 h2
    exact ⟨h1.symm, h2.symm⟩
theorem wl_over {n tk : Nat} {l : List Nat} {WS : List (List Nat × Nat)} (hE : WS.drop tk = wl n l) (h : ¬ tk < WS.length) : tok l = ([], []) ∧ l.all isWs = true := by
  rw [List.drop_eq_nil_of_le (by omega)] at hE
  cases ha : l.all isWs with
  | true => exact ⟨tok_none ha, rfl⟩
  | false => rw [wl_some ha] at hE; cases hE
theorem tokS_suffix (stop : Nat → Bool) : ∀ l : List Nat, (tokS stop l).2 <:+ l
  | [] => by simp [tokS]
  | [c] => by
    simp only [tokS]
    split
    · exact List.suffix_cons _ _
    · split <;> exact List.nil_suffix
  | c :: d :: r => by
    unfold tokS
    split
    · exact List.suffix_cons _ _
    · split
      · exact ((tokS_suffix stop r).trans (List.suffix_cons _ _)).trans (List.suffix_cons _ _)
      · exact (tokS_suffix stop (d :: r)).trans (List.suffix_cons _ _)
theorem tok_suffix : ∀ l : List Nat, (tok l).2 <:+ l
  | [] => by simp [tok]
  | c :: r => by
    unfold tok
    split
    · exact (tok_suffix r).trans (List.suffix_cons _ _)
    · split
      · exact (tokS_suffix _ r).trans (List.suffix_cons _ _)
      · exact tokS_suffix _ (c :: r)
theorem tok_drop (cs : List Nat) (p : Nat) : cs.drop (cs.length - (tok (cs.drop p)).2.length) = (tok (cs.drop p)).2 :=
  (List.suffix_iff_eq_drop.mp ((tok_suffix (cs.drop p)).trans (List.drop_suffix p cs))).symm
theorem Far.push {n0 W i a tk : Nat} (h : Far n0 W i a tk) (hi : i < n0) : Far n0 W (i + 1) (a + 1) tk := by
  obtain ⟨h1, h2⟩ := h
  exact ⟨fun _ => by omega, fun _ => .inl (by omega)⟩
theorem Far.pop {n0 W i a tk : Nat} (h : Far n0 W i (a + 1) tk) : Far n0 W (i + 1) a tk := by
  obtain ⟨h1, h2⟩ := h
  refine ⟨fun _ => by omega, fun _ => ?_⟩
  by_cases q : n0 ≤ i
  · have := h2 q; omega
  · exact .inl (by omega)
theorem Far.word {n0 W i tk : Nat} (h : Far n0 W i 0 tk) (ht : tk < W) : Far n0 W (i + 1) 0 (tk + 1) := by
  obtain ⟨h1, h2⟩ := h
  refine ⟨fun _ => by omega, fun _ => ?_⟩
  by_cases q : n0 ≤ i
  · have := h2 q; omega
  · exact .inl (by omega)
theorem Far.over {n0 W i tk : Nat} (ht : tk = W) : Far n0 W (i + 1) 0 tk := ⟨fun _ => by omega, fun _ => .inr ⟨rfl, ht⟩⟩
theorem Far.end {n0 W n i a tk : Nat} (h : Far n0 W i a tk) (hi : n0 + n0 + n ≤ i) (hW : W ≤ n) (ht : tk ≤ W) : a = 0 ∧ tk = W := by
  have := h.2 (by omega)
  omega
local macro_rules | `(tactic| walk_at "call ref") => `(tactic| (k_here; (with_reducible show wpAny _ _ (call (Value.ref 63) [Value.str _ _] _) _ _ _); k_dflt (refine' file_M ?k1 ?k2 ?k3 ?k4 ?kc ?k5 ?k6 ?k7 ?_; (case k1 => assumption); (case k2 => k_asm); (case k3 => k_asm); (case k4 => walk_at "mine aok"); (case kc => assumption); (case k5 => k_asm); (case k6 => k_asm); (case k7 => k_updF); k_whole); intro h' tk' l' x' d' b' f' c' P' cP' cT' fd' oc' oP' oT' t0' t1' t2' t3' t4' t5' tn' tw' ps' F' N' rd' l1 l2 o1' o2' o3' o4' o5' o6' o7'; (try dsimp only at N'); (try k_lt l1); k_lt2 l2; k_lt2 o1'; k_lt2 o2'; k_lt2 o3'; k_lt2 o4'; k_lt2 o5'; k_lt2 o6'; k_lt2 o7'; (try k_sweep)))
local macro_rules | `(tactic| walk_at "call ref") => `(tactic| (k_here; (with_reducible show wpAny _ _ (call (Value.ref 82) [Value.str _ _] _) _ _ _); k_dflt (refine' words_M ?k1 ?k2 ?k3 ?k4 ?k5 ?k6 ?_; (case k1 => assumption); (case k2 => k_asm); (case k3 => k_asm); (case k4 => walk_at "mine aok"); (case k5 => k_asm); (case k6 => k_asm); k_whole); intro h' tk' D' vs' n' rows' F' N' l1 hr' l3 hS'; (try k_lt l1); k_lt2 l3; (try k_sweep)))
local macro_rules | `(tactic| walk_at "call ref") => `(tactic| (k_here; (k_dflt (show wpAny _ _ (call (Value.ref 42) [Value.ref _] []) _ _ _)); (with_reducible rename Cfg.Ord _ => ord'); k_dflt (refine' pop_M ?k1 ?k2 ?k3 ?k4 ord' ?k5 ?k6 ?k7 ?kx ?kP ?kD ?kn ?k8 ?_; (case k5 => k_asm); (case k6 => k_asm); (case k2 => k_asm); (case k3 => k_asm); (case k4 => walk_at "mine aok"); (case k7 => k_updF); (case kx => assumption); (case kP => k_mem); (case kD => k_mem); (case kn => with_reducible rfl); (case k8 => walk_at "mine mems"); (case k1 => first | assumption | omega); k_whole); intro h' tk' n' F' N'; (try dsimp only at N'); (try k_sweep)))
local macro_rules | `(tactic| walk_at "call ref") => `(tactic| (k_here; (k_dflt (show wpAny _ _ (call (Value.ref 42) [Value.ref _] []) _ _ _)); (with_reducible rename Cfg.Ord _ => ord'); (with_reducible rename Reader _ _ _ _ _ _ => rd'); k_dflt (refine' tok_M ?k1 ?k2 ?k3 ?k4 ?k4' ord' rd' ?kh ?k5 ?k6 ?k7 ?k7' ?k8 ?k9 ?_; (case k5 => k_asm); (case k6 => k_asm); (case k2 => k_asm); (case k3 => k_asm); (case k4 => exact fun _ _ e => e); (case k4' => walk_at "mine aok"); (case k7 => k_updF); (case k7' => (intro o'; (try dsimp only); k_updF)); (case k8 => walk_at "mine mems"); (case k9 => k_mem); (case k1 => assumption); (case kh => omega); k_whole); intro h' tk' tr' t1' t2' t3' t4' tn' tw' tp' np' F' N'; (try dsimp only at N'); (try k_sweep)))
local macro_rules | `(tactic| walk_at "compareOp NotEq ref ref") => `(tactic| (k_here; (with_reducible show wpAny _ _ (compareOp CmpOp.NotEq (Value.ref _) (Value.ref _)) _ _ _); k_dflt (refine' ne_texts ?k1 ?k2 ?k3 ?k4 ?k5 ?k6 ?_; (case k1 => k_asm); (case k2 => k_mem); (case k3 => first | assumption | exact Pw.push (by assumption) (by assumption)); (case k4 => k_mem); (case k5 => first | assumption | exact Pw.nil | exact Pw.push (by assumption) (by assumption)); (case k6 => k_units); k_whole); (try simp only [reduceCtorEq, decide_true, decide_false, Bool.not_true, Bool.not_false])))
local macro_rules | `(tactic| walk_at "binaryOp Add ref ref") => `(tactic| (k_here; k_dflt (refine' addL_M ?k1 ?k2 ?k3 ?k4 ?k5 ?_; (case k1 => k_asm); (case k2 => k_asm); (case k3 => k_mem); (case k4 => k_mem); (case k5 => (simp only [List.length_cons, List.length_nil]; omega)); k_whole); intro D' h' F' N' l1 l2; (try k_lt l1); k_lt2 l2; (try k_sweep)))
local macro_rules | `(tactic| walk_at "subscriptTail Name Slice ref ref") => `(tactic| (k_here; k_dflt (refine' tail_M ?F ?N ?m ?z ?_ ?s ?t; (case F => k_asm); (case N => k_asm); (case m => k_mem); (case z => omega); (case s => with_unfolding_all rfl); (case t => (intro _; with_unfolding_all rfl)); k_whole); intro D' h' F' N' l1; (try k_lt l1); (try k_sweep)))
local macro_rules | `(tactic| walk_at "compareOp NotEq int int") => `(tactic| (k_here; refine' ne_int_no ?hab ?_; (case hab => first | (with_reducible rfl) | assumption)))
local macro_rules | `(tactic| walk_at "compareOp NotEq str str") => `(tactic| (k_here; refine' ne_str_no ?hab ?_; (case hab => first | (with_reducible rfl) | assumption)))
local macro_rules | `(tactic| walk_at "subscriptTail Name BinOp ref int") => `(tactic| (k_here; (with_unfolding_all refine' item_3 ?k1 ?k2 ?k3 ?k4 ?_ ?k6; (case k1 => k_asm); (case k2 => k_mem); (case k3 => exact Int.fmod_nonneg_of_pos _ (by decide)); (case k4 => exact Int.fmod_lt_of_pos _ (by decide)); (case k6 => with_unfolding_all rfl); k_whole); intro y' t' hy'))
local macro_rules | `(tactic| walk_at "call ref") => `(tactic| (k_here; (with_reducible show wpAny _ _ (call (Value.ref 49) [Value.ref _, _] _) _ _ _); (with_reducible rename Cfg.Ord _ => ord'); k_dflt (refine' push_M ?k1 ?k2 ?k3 ?k4 ord' ?k5 ?k6 ?k7 ?kx ?kP ?kD ?kn ?k8 ?_; (case k5 => k_asm); (case k6 => k_asm); (case k2 => k_asm); (case k3 => k_asm); (case k4 => walk_at "mine aok"); (case k7 => k_updF); (case kx => assumption); (case kP => k_mem); (case kD => k_mem); (case kn => with_reducible rfl); (case k8 => walk_at "mine mems"); (case k1 => first | assumption | omega); k_whole); intro h' tk' n' F' N'; (try dsimp only at N'); (try k_sweep)))
local macro_rules | `(tactic| walk_at "mine rows") => `(tactic| (intro q hq; exact List.Mem.tail _ (List.Mem.tail _ (List.mem_append_left _ hq))))
local macro_rules | `(tactic| walk_at "mine rows") => `(tactic| (refine' List.forall_mem_cons.mpr ⟨?hm1, ?hm2⟩; (case hm1 => first | k_mem | exact List.Mem.tail _ (List.Mem.tail _ (List.mem_append_right _ (by k_mem)))); (case hm2 => walk_at "mine rows")))
theorem off_21 : True := by
  w_top off
  trivial
theorem run_spec {w : World} {A : Around} {s : Shared} {g₀ : Heap} {mg mb : Str → Option Value} {p : Program} {loose : List Str} {mean : ExcName → Option Value} {R : Result → Shared → Prop}
    {cs : List Nat} {tt : Nat} {stp : Addr} {ks : List Value} {ns : List Int} {nS n0 : Nat} (htx : cs.length ≤ 100)
    (X₀ : (hd.heap_39 w.params).In g₀) (T₀ : Top p loose mean mg mb g₀) (hs : g₀.StaysIn s.heap) (hA : AOk 400 A) (hC : CodeHd g₀ 62 58) (h58 : 58 < stp)
    (H : Has g₀ s.heap [(58, tabObj #[]), (stp, W.listOf ks.toArray nS)]) (hks : IntsAre ks ns) (hkl : ks.length ≤ 200) (hlen : n0 + n0 + cs.length ≤ ns.length) (hz : ∀ (i : Nat) (hi : i < ns.length), n0 ≤ i → ns[i] = 0)
    (h : ∀ h' tk ps, KeptH [58] s.heap h' → h'.get? 58 = some (tabObj ps) → R (.ok (.ret (.bool true))) { s with heap := h', toks := tk }) :
    codeAny (model pr w) A (.call (.ref 89) ⟨[.str (mkS cs) tt, .ref stp], []⟩) R s := by
  have htx' : (mkS cs).length ≤ 100 := by rw [mkS_length]; exact htx
  have hkn : ks.length = ns.length := hks.length
  k_lt2 h58
  walk_at "mine enter"
  have codeHd := CodeHd.keeps hC (by assumption)
  walk_at "mine steps"
  rename_i dp fr gd un hdp hun g L h0 st X T kp l1a l2a h1 tk1 lt xs ds sb f c P cP cT fd oc oP oT t0 u1 u2 u3 u4 u5 un' uw ps rd l1b l2b o1 o2 o3 o4 o5 o6 o7 h2 h3 h4 tk2 lx dl pb h5 tk3 t1 t2 t3 t4 tn tw l1c l2c l3c h6 tk4 h7 tk5 D wvs nD rows hr hS l1d l3d h8 tk6 h9 h10 Wt h11 l1e l2e h12 F N
  have hrow : ∀ q ∈ rows, pb < q.1 := fun q hq => (hr q hq).2 (pb, _) (.tail _ (.tail _ (.head _)))
  have hrL : ∀ q ∈ rows, q.1 < Wt := fun q hq => allLt_mem l1e.2 q (List.mem_append_left _ hq)
  have hWS : wvs.length = (wl cs.length cs).length := hS.1
  have hWl := wl_len cs.length cs
  obtain ⟨C, rfl, rfl, rfl, rfl, rfl, rfl, rfl, rfl, rfl, rfl, rfl, rfl, rfl, rfl, rfl, rfl, rfl, rfl, rfl, rfl, rfl, rfl⟩ : ∃ C : Cfg, lx = C.lx ∧ dl = C.dl ∧ xs = C.src ∧ ds = C.ds ∧ P = C.P ∧ f = C.f ∧ c = C.c ∧ cP = C.cP ∧ cT = C.cT ∧ pb = C.pb ∧ sb = C.sb ∧ u1 = C.u1 ∧ u2 = C.u2 ∧ u3 = C.u3 ∧ u4 = C.u4 ∧ u5 = C.u5 ∧ un' = C.un ∧ uw = C.uw ∧ fd = C.fd ∧ oc = C.oc ∧ oP = C.oP ∧ oT = C.oT :=
    ⟨⟨lx, dl, xs, ds, P, f, c, cP, cT, pb, sb, u1, u2, u3, u4, u5, un', uw, fd, oc, oP, oT⟩, rfl, rfl, rfl, rfl, rfl, rfl, rfl, rfl, rfl, rfl, rfl, rfl, rfl, rfl, rfl, rfl, rfl, rfl, rfl, rfl, rfl, rfl⟩
  have ord : C.Ord := ⟨o1, o2, o3, o4, o5, o6, ltN l1c.2.1, l2c, l3c⟩
  have o8 : @LT.lt Nat _ C.src C.dl := l1c.2.1
  have o9 : @LT.lt Nat _ C.pb D := l1d.2.2.1
  have o10 : @LT.lt Nat _ stp C.cT := l1b.2
  have hr1 : ∀ q ∈ rows, q.1 ≠ C.pb := fun q hq => Nat.ne_of_gt (hrow q hq)
  have hr2 : ∀ q ∈ rows, q.1 ≠ C.dl := fun q hq => Nat.ne_of_gt (Nat.lt_trans (Nat.lt_trans l2c l3c) (hrow q hq))
  have hr3 : ∀ q ∈ rows, q.1 ≠ C.P := fun q hq => Nat.ne_of_gt (Nat.lt_trans (ltN (by omega)) (hrow q hq))
  have o11 : @LT.lt Nat _ C.pb Wt := by omega
  have N₁ : News g L h12 (runRows w C cs D stp (W.listOf wvs.toArray nD) (W.listOf ks.toArray nS) (tabObj ps) rows Wt (W.listOf ([] : List Value).toArray 0) (W.listOf ([] : List Value).toArray 0) t1 t2 t3 t4 tn tw t0 0 0) := by
    refine News.sub N ?_
    dsimp only [runRows]
    walk_at "mine rows"
  clear hr hrow l1c l1d l1e l1b hrL N
  refine for_list (l := stp) (ks := ks) (nl := nS) (RunJ w C cs D stp (W.listOf wvs.toArray nD) (W.listOf ks.toArray nS) (tabObj ps) rows n0) rfl F N₁ ⟨0, 0, _, _, Wt, [], [], _, _, _, _, _, _, _, _, _, _, _, rfl, rfl, rfl, rfl, rfl, rfl, rfl, rfl, Pw.nil, ltN o11, Nat.zero_le _, Nat.zero_le _, rfl, ⟨fun _ => Nat.le_refl _, fun _ => .inl (by simp)⟩⟩ ?hl ?hy rfl rfl ?hend ?turn
  case hl =>
    rintro i m₁ news₁ ⟨p, tk, npb, nW, Wt, vs, ys, t1, t2, t3, t4, tn, tw, tp, np, ta, tt, tx, hm1, hm2, hm3, hm4, hm5, hm6, hm7, rfl, r⟩
    simp
  case hy =>
    intro Q' hQ
    walk_at "mine steps"
    exact hQ
  case hend =>
    rintro m₁ news₁ h₁ tk₁ ⟨p, tkn, npb, nW, Wt₁, vs, ys, t1, t2, t3, t4, tn, tw, tp, np, ta, tt, tx, hm1, hm2, hm3, hm4, hm5, hm6, hm7, rfl, hP, hWt, hp, htk, hE, hF⟩ F₁ N₁
    obtain ⟨hv0, htE⟩ := hF.end (n := cs.length) (by omega) hWl htk
    have hvs0 : vs = [] := List.eq_nil_of_length_eq_zero hv0
    subst hvs0
    obtain ⟨hw1, hw2⟩ := wl_over hE (by omega)
    have hpl : ((cs.length - (tok (cs.drop p)).2.length : Nat) : Int) = ((mkS cs).length : Int) := by rw [mkS_length, hw1]; rfl
    have hwd : mkS (tok (cs.drop p)).1 = Str.ofString "" := by rw [hw1, empty_eq]
    replace hWt := ltN hWt
    dsimp only
    walk_at "mine steps"
    · (rename News _ _ _ _ => N₂); (rename Fr _ _ _ _ => F₂)
      rw [hpl, beq_self_eq_true]
      exact h _ _ ps (kept_end (fun q hq => (H q hq).1) kp F₂ (by walk_at "mine still")) (News.get N₂ (by k_mem))
    · (rename _ = false => hfalse)
      rw [hwd, beq_self_eq_true] at hfalse
      cases hfalse
  case turn =>
    clear N₁ F
    rintro I oI hI i hi m₁ news₁ h₁ tk₁ ⟨p, tkn, npb, nW, Wt₁, vs, ys, t1, t2, t3, t4, tn, tw, tp, np, ta, tt, tx, hm1, hm2, hm3, hm4, hm5, hm6, hm7, rfl, hP, hWt, hp, htk, hE, hF⟩ hne F₁ N₁ Wk hWk
    have oI1 : @LT.lt Nat _ D I := hI (D, W.listOf wvs.toArray nD) (by simp)
    clear hI
    replace hWt := ltN hWt
    obtain ⟨tki, hki⟩ := IntsAre.at hks i hi (hkn ▸ hi)
    have hzi : n0 ≤ i → ns[i] = 0 := hz i (hkn ▸ hi)
    rw [hki] at F₁
    generalize ns[i]'(hkn ▸ hi) = k at F₁ hzi
    have hcnt : (1 : Int) + ((cs.take p).count 10 : Nat) = 1 + Txt.count (Txt.slice (mkS cs) none (some (p : Int))) (Str.ofString "\n") := by rw [rows_count cs hp]
    have hvl := hP.length
    have hvs : vs.length ≤ 1000 := by
      have := hF.1; have := hF.2
      by_cases q : i ≤ n0 <;> omega
    by_cases hk3 : k.fmod 4 = 3
    · have hin : i < n0 := by
        by_cases q : i < n0
        · exact q
        · rw [hzi (by omega)] at hk3; exact absurd hk3 (by decide)
      clear hzi
      walk_at "mine steps"
      (rename News _ _ _ _ => N₂); (rename Fr _ _ _ _ => F₂)
      (rename _ ∈ W3 => hy₂)
      refine' hWk _ _ ⟨_, _, _, _, rfl, F₂, News.sub N₂ ?hsub, run_ne hne ?hI, p, tkn, _, _, _, _, _, _, _, _, _, _, _, _, _, _, _, _, hm1, hm2, hm3, hm4, hm5, hm6, rfl, rfl, Pw.push hP hy₂, ltN ?ho, hp, htk, hE, ?far⟩
      case far => rw [List.length_append]; exact hF.push hin
      case ho => omega
      case hsub => walk_at "mine mems"
      case hI => omega
    · clear hzi
      cases vs with
      | cons v vs =>
        obtain ⟨y, ty, yr, rfl, rfl, hy, hP'⟩ := hP.tail
        have hvs' : vs.length ≤ 999 := by simp only [List.length_cons] at hvs; omega
        walk_at "mine steps"
        (rename News _ _ _ _ => N₂); (rename Fr _ _ _ _ => F₂)
        refine' hWk _ _ ⟨_, _, _, _, rfl, F₂, News.sub N₂ ?hsub, run_ne hne ?hI, p, tkn, _, _, _, _, _, _, _, _, _, _, _, _, _, _, _, _, hm1, hm2, hm3, hm4, hm5, hm6, rfl, rfl, hP', ltN ?ho, hp, htk, hE, ?far⟩
        case far => exact hF.pop
        case ho => omega
        case hsub => walk_at "mine mems"
        case hI => omega
      | nil =>
        by_cases hlt : tkn < (wl cs.length cs).length
        · obtain ⟨a, ua, ub, na, hx, hmem⟩ := hS.at hlt
          obtain ⟨hw1, hw2⟩ := wl_next hE hlt
          rw [hw1] at hmem
          have hcnt' : (1 : Int) + ((cs.take (cs.length - (tok (cs.drop p)).2.length)).count 10 : Nat) = 1 + Txt.count (Txt.slice (mkS cs) none (some ((cs.length - (tok (cs.drop p)).2.length : Nat) : Int))) (Str.ofString "\n") := by rw [rows_count cs (by omega)]
          walk_at "mine steps"
          (rename News _ _ _ _ => N₂); (rename Fr _ _ _ _ => F₂)
          refine' hWk _ _ ⟨_, _, _, _, rfl, F₂, News.sub N₂ ?hsub, run_ne hne ?hI, cs.length - (tok (cs.drop p)).2.length, tkn + 1, _, _, _, [], [], _, _, _, _, _, _, _, _, _, _, _, hm1, hm2, hm3, hm4, rfl, rfl, hm7, rfl, Pw.nil, ltN ?ho, ?hp', ?htk, ?hE', hF.word hlt⟩
          case hp' => omega
          case htk => omega
          case hE' => rw [tok_drop]; exact hw2
          case ho => omega
          case hsub => walk_at "mine mems"
          case hI => exact hne _ (.head _)
        · obtain ⟨hw1, hw2⟩ := wl_over hE hlt
          have hpl : ((cs.length - (tok (cs.drop p)).2.length : Nat) : Int) = ((mkS cs).length : Int) := by rw [mkS_length, hw1]; rfl
          have hcnt' : (1 : Int) + ((cs.take (cs.length - (tok (cs.drop p)).2.length)).count 10 : Nat) = 1 + Txt.count (Txt.slice (mkS cs) none (some ((mkS cs).length : Int))) (Str.ofString "\n") := by rw [← hpl, rows_count cs (by omega)]
          have hwd : mkS (tok (cs.drop p)).1 = Str.ofString "" := by rw [hw1, empty_eq]
          walk_at "mine steps"
          (rename News _ _ _ _ => N₂); (rename Fr _ _ _ _ => F₂)
          rw [hw1] at N₂
          simp only [List.length_nil, Nat.sub_zero] at N₂
          refine' hWk _ _ ⟨_, _, _, _, rfl, F₂, News.sub N₂ ?hsub, run_ne hne ?hI, cs.length, tkn, _, _, _, [], [], _, _, _, _, _, _, _, _, _, _, _, hm1, hm2, hm3, hm4, hm5, rfl, hm7, rfl, Pw.nil, ltN ?ho, Nat.le_refl _, htk, ?hE', Far.over ?hov⟩
          case hov => omega
          case hE' => rw [List.drop_eq_nil_of_le (by omega), List.drop_eq_nil_of_le (Nat.le_refl _), wl_none rfl]
          case ho => omega
          case hsub => walk_at "mine mems"
          case hI => exact hne _ (.head _)
theorem off_22 : True := by
  w_top off
  trivial
/-- what the law's first comprehension makes of an int: one sign -/
def SignOf (v y : Value) : Prop := (∃ k t, v = .int k t) ∧ ∃ j t', y = .str (mkS [j]) t'
theorem SignOf.strs : ∀ {vs ys : List Value}, Paired SignOf vs ys → ∃ zs : List (List Nat), StrsAre ys (zs.map mkS) ∧ zs.flatten.length = vs.length ∧ ys.length = vs.length
  | _, _, .nil => ⟨[], .nil, rfl, rfl⟩
  | _, _, .cons f q => by
    obtain ⟨zs, h1, h2, h3⟩ := SignOf.strs q
    obtain ⟨_, j, t', rfl⟩ := f
    exact ⟨[j] :: zs, .cons _ _ h1, by simp only [List.flatten_cons, List.length_append, List.length_cons, List.length_nil]; omega, by simp [h3]⟩
/-- what the second makes of it: its quotient -/
def QuotOf (v y : Value) : Prop := ∃ k t t', v = .int k t ∧ y = .int (k.fdiv 11) t'
theorem QuotOf.ints : ∀ {vs ys : List Value}, Paired QuotOf vs ys → ∃ ms : List Int, IntsAre ys ms ∧ ms.length = vs.length
  | _, _, .nil => ⟨[], .nil, rfl⟩
  | _, _, .cons f q => by
    obtain ⟨ms, h1, h2⟩ := QuotOf.ints q
    obtain ⟨k, t, t', _, rfl⟩ := f
    exact ⟨k.fdiv 11 :: ms, .cons _ _ h1, by simp [h2]⟩
theorem ints_mem : ∀ {vs : List Value} {ns : List Int}, IntsAre vs ns → ∀ v ∈ vs, ∃ k t, v = .int k t
  | _, _, .cons k t r, v, hv => by
    rcases List.mem_cons.mp hv with rfl | hv
    · exact ⟨k, t, rfl⟩
    · exact ints_mem r v hv
theorem ints_app : ∀ {vs us : List Value} {ns ms : List Int}, IntsAre vs ns → IntsAre us ms → IntsAre (vs ++ us) (ns ++ ms)
  | _, _, _, _, .nil, h => h
  | _, _, _, _, .cons k t r, h => .cons k t (ints_app r h)
theorem ints_zeros (t : Tok) : ∀ n : Nat, IntsAre (List.replicate n [Value.int 0 t]).flatten (List.replicate n 0)
  | 0 => .nil
  | n + 1 => by
    rw [List.replicate_succ, List.replicate_succ, List.flatten_cons]
    exact .cons 0 t (ints_zeros t n)

section
variable {w : World} {A : Around} {env : Env} {scope : Scope} {cl : List (Str × Addr)} {x : Str} {C : Addr} {v : Value} {s₃ : Shared} {m₃ : Str → Option Value} {E' : Value → Shared → Prop} {h : Heap}
/-- table[x % 11], in the comprehension's own block -/
theorem elt_tab {tb : Str} {p1 p2 p3 p4 p5 : Pos} {c l : Addr} {its : List Value} (hkind : (compEnvC scope cl C env).scope.kind = .function) (hx : (compEnvC scope cl C env).kindOf x = some .local) (ht : (compEnvC scope cl C env).kindOf tb = some .cell)
    (hd : (x == ("__debug__" : Str)) = false) (hd' : (tb == ("__debug__" : Str)) = false) (hc : cl.lookup tb = some c) (hcell : h.IsCell c (some (.ref l))) (hl : h.IsList l its.toArray) (hi : its.length = 11) (hs : ∀ y ∈ its, ∃ j t, y = .str (mkS [j]) t)
    (hv : ∃ k t, v = .int k t) (hn : s₃.heap.Ns C m₃) (hm : m₃ x = some v) (hk : ∀ b o, h.get? b = some o → s₃.heap.get? b = some o) :
    wpAny (model pr w) A (eval (.Subscript (.Name tb p1) (.BinOp (.Name x p2) .Mod (.Constant (.int 11) 0 p3) p4) p5) (compEnvC scope cl C env)) (fun y s₄ => SignOf v y ∧ Keeps s₃ s₄) E' s₃ := by
  obtain ⟨k, t, rfl⟩ := hv
  obtain ⟨oc, hoc, hdc⟩ := hcell
  obtain ⟨ol, hol, hcl, nl, hdl⟩ := hl
  refine Subscript_ (wpAny_Name (wpAny_loadName_cell hkind ht hc ⟨oc, hk _ _ hoc, hdc⟩ ?_) hd')
  refine wpAny_BinOp (wpAny_Name (wpAny_loadName_local hkind hx hn hm ?_) hd)
  refine wpAny_Constant_int (mod_int (by decide) ?_)
  have h0 : 0 ≤ k.fmod 11 := Int.fmod_nonneg_of_pos _ (by decide)
  have h1 : k.fmod 11 < 11 := Int.fmod_lt_of_pos _ (by decide)
  have hj : (k.fmod 11).toNat < its.length := by omega
  obtain ⟨j, t', e⟩ := hs _ (List.getElem_mem hj)
  have hL : ∀ s' : Shared, s'.heap = s₃.heap → s'.heap.IsList l its.toArray := fun s' q => ⟨ol, by rw [q]; exact hk _ _ hol, hcl, nl, hdl⟩
  refine tail_any (hL _ rfl).typeIs slot_list_getitem.lookup (wpAny_getItem_list (x := its[(k.fmod 11).toNat]) (hL _ rfl) h0 (by omega) (by simp [hj]) ?_) (by with_unfolding_all rfl)
  exact ⟨⟨⟨k, t, rfl⟩, j, t', e⟩, s₃.heap, _, rfl, fun _ _ e => e⟩
/-- x // 11, in the comprehension's own block -/
theorem elt_quot {p2 p3 p4 : Pos} (hkind : (compEnvC scope cl C env).scope.kind = .function) (hx : (compEnvC scope cl C env).kindOf x = some .local) (hd : (x == ("__debug__" : Str)) = false)
    (hv : ∃ k t, v = .int k t) (hn : s₃.heap.Ns C m₃) (hm : m₃ x = some v) :
    wpAny (model pr w) A (eval (.BinOp (.Name x p2) .FloorDiv (.Constant (.int 11) 0 p3) p4) (compEnvC scope cl C env)) (fun y s₄ => QuotOf v y ∧ Keeps s₃ s₄) E' s₃ := by
  obtain ⟨k, t, rfl⟩ := hv
  refine wpAny_BinOp (wpAny_Name (wpAny_loadName_local hkind hx hn hm ?_) hd)
  refine wpAny_Constant_int (floordiv_int (by decide) ?_ (.inl (PyProof.noPylong_small (by decide))))
  exact ⟨⟨k, t, _, rfl, rfl⟩, s₃.heap, _, rfl, fun _ _ e => e⟩
end

section
variable {w : World} {A : Around} {s : Shared} {E : Value → Shared → Prop} {g : Heap} {L : Addr} {m mg mb : Str → Option Value} {p : Program} {loose : List Str} {mean : ExcName → Option Value} {news : List (Addr × Obj)} {Q : Value → Shared → Prop}
/-- [0] * n -/
theorem zeros_M {l : Addr} {n : Nat} {x : Int} {u t : Tok} (F : Fr g L s.heap m) (N : News g L s.heap news) (hm : (l, W.listOf #[.int 0 t] n) ∈ news) (h0 : 0 ≤ x) (hx : x ≤ 1000)
    (h : ∀ D h' (vs : List Value), Fr g L h' m → News g L h' ((D, W.listOf vs.toArray 0) :: news) → (∀ q ∈ news, q.1 < D) → IntsAre vs (List.replicate x.toNat 0) → vs.length = x.toNat → Q (.ref D) { s with heap := h' }) :
    wpAny (model pr w) A (binaryOp .Mult (.ref l) (.int x u)) Q E s :=
  PySem.W.KM.mul (vs := [.int 0 t]) (ns := [0]) F N (N.isList hm) (.cons 0 t .nil) (by omega) (by omega) (by simp only [List.length_cons, List.length_nil]; omega)
    (fun D h' F' N' l1 _ _ _ _ _ _ => h D h' _ F' N' l1 (ints_zeros t _) (by have := (ints_zeros t x.toNat).length; rw [this, List.length_replicate]))
/-- _law_run from a frame -/
theorem run_M {gf : Obj → List (Addr × Obj)} {cs : List Nat} {tt : Nat} {stp : Addr} {ks : List Value} {ns : List Int} {nS n0 : Nat} (htx : cs.length ≤ 100) (X : (hd.heap_39 w.params).In g) (T : Top p loose mean mg mb g) (hA : AOk 400 A) (hC : CodeHd g 62 58) (h58 : 58 < stp)
    (F : Fr g L s.heap m) (N : News g L s.heap news) (U : UpdF 58 (tabObj #[]) news gf) (hst : (stp, W.listOf ks.toArray nS) ∈ news)
    (hks : IntsAre ks ns) (hkl : ns.length ≤ 200) (hlen : n0 + n0 + cs.length ≤ ns.length) (hz : ∀ (i : Nat) (hi : i < ns.length), n0 ≤ i → ns[i] = 0)
    (h : ∀ h' tk ps, Fr g L h' m → News g L h' (gf (tabObj ps)) → Q (.bool true) { s with heap := h', toks := tk }) :
    wpAny (model pr w) A (call (.ref 89) [.str (mkS cs) tt, .ref stp]) Q E s := by
  refine wpAny_call (run_spec (nS := nS) htx X T F.keep hA hC h58 (Has.news N (fun _ _ e => e) fun q hq => ?_) hks (by rw [hks.length]; exact hkl) hlen hz ?_)
  · rcases List.mem_cons.mp hq with rfl | hq
    · exact updF_mem U
    · rcases List.mem_cons.mp hq with rfl | hq
      · exact hst
      · cases hq
  intro h' tk ps k e
  exact h h' tk ps (k.frF U N F) (k.newsF U N e)
end
/-- the law's table -/
theorem table_signs {t1 t2 t3 t4 t5 t6 t7 t8 t9 t10 t11 : Tok} : ∀ y ∈ [Value.str (Str.ofString "a") t1, .str (Str.ofString " ") t2, .str (Str.ofString "\\") t3, .str (Str.ofString "\"") t4, .str (Str.ofString "\n") t5, .str (Str.ofString "b") t6, .str (Str.ofString "#") t7,
    .str (Str.ofString "\t") t8, .str (Str.ofString "\x0d") t9, .str (Str.ofString "\x0b") t10, .str (Str.ofString "é") t11], ∃ j t, y = .str (mkS [j]) t := by
  have e : ∀ (x : Str) (t : Tok) (j : Nat), x = mkS [j] → ∃ j' t', Value.str x t = .str (mkS [j']) t' := fun x t j q => ⟨j, t, by rw [q]⟩
  refine List.forall_mem_cons.mpr ⟨e _ _ 97 (by decide +kernel), List.forall_mem_cons.mpr ⟨e _ _ 32 (by decide +kernel), List.forall_mem_cons.mpr ⟨e _ _ 92 (by decide +kernel), List.forall_mem_cons.mpr ⟨e _ _ 34 (by decide +kernel), List.forall_mem_cons.mpr ⟨e _ _ 10 (by decide +kernel),
    List.forall_mem_cons.mpr ⟨e _ _ 98 (by decide +kernel), List.forall_mem_cons.mpr ⟨e _ _ 35 (by decide +kernel), List.forall_mem_cons.mpr ⟨e _ _ 9 (by decide +kernel), List.forall_mem_cons.mpr ⟨e _ _ 13 (by decide +kernel), List.forall_mem_cons.mpr ⟨e _ _ 11 (by decide +kernel),
    List.forall_mem_cons.mpr ⟨e _ _ 233 (by decide +kernel), List.forall_mem_nil _⟩⟩⟩⟩⟩⟩⟩⟩⟩⟩⟩
/-- behind the script's own steps all are zeros -/
theorem zeros_after {ms : List Int} {n : Nat} (i : Nat) (hi : i < (ms ++ List.replicate n (0 : Int)).length) (h : ms.length ≤ i) : (ms ++ List.replicate n (0 : Int))[i] = 0 := by
  rw [List.getElem_append_right h, List.getElem_replicate]
local macro_rules | `(tactic| walk_at "binaryOp Mult ref int") => `(tactic| (k_here; k_dflt (refine' zeros_M ?k1 ?k2 ?k3 ?k4 ?k5 ?_; (case k1 => k_asm); (case k2 => k_asm); (case k3 => k_mem); (case k4 => omega); (case k5 => omega); k_whole); intro D' h' vs' F' N' l1 hz' hzl'; (try k_lt l1); (try k_sweep)))
local macro_rules | `(tactic| walk_at "call ref") => `(tactic| (k_here; (with_reducible show wpAny _ _ (call (Value.ref 89) [Value.str _ _, Value.ref _] _) _ _ _); k_dflt (refine' run_M ?k1 ?k2 ?k3 ?k4 ?kc ?k58 ?k5 ?k6 ?k7 ?kst ?kks ?kkl ?klen ?kz ?_; (case k5 => k_asm); (case k6 => k_asm); (case k1 => omega); (case k2 => k_asm); (case k3 => k_asm); (case k4 => exact ⟨rfl, Nat.le_of_ble_eq_true rfl, Nat.le_of_ble_eq_true rfl⟩); (case kc => assumption); (case kst => k_mem); (case k58 => (refine ltN ?_; omega)); (case k7 => k_updF); (case kks => assumption); (case kz => exact fun i hi => zeros_after i hi); (case kkl => (simp only [List.length_append, List.length_replicate]; omega)); (case klen => (simp only [List.length_append, List.length_replicate]; omega)); k_whole); intro h' tk' ps' F' N'; (try dsimp only at N'); (try k_sweep)))

theorem off_23 : True := by
  w_top off
  trivial
theorem final : PySem.Challenge.rw_dz0059_01.Holds := by
  refine hd ?_
  k_go0
  (all_goals try k_fold)
  walk_at "mine steps"
  (rename News _ _ _ _ => N₁); (rename Fr _ _ _ _ => F₁)
  (rename IntsAre _ (_ ++ _) => hJ)
  have hJl := hJ.length
  rw [List.length_append, List.length_cons, List.length_nil] at hJl
  refine compAt_M SignOf rfl F₁ N₁ (.head _) (by omega) (fun C v s₃ m₃ E' hv _ hn hx' hk => elt_tab rfl rfl rfl (by decide) (by decide) rfl ⟨_, News.get N₁ (by k_mem), by assumption⟩ (N₁.isList (by k_mem)) rfl table_signs (ints_mem hJ v hv) hn hx' hk) ?_
  intro D₂ h₂' tk' ys k F₂ N₂ l6 hP
  obtain ⟨zs, hStr, hzl, hyl⟩ := SignOf.strs hP
  clear F₁ N₁
  have hne₂ : @Ne Nat D₂ 58 := Ne.symm (l6 (58, _) (by k_mem))
  clear l6
  have hzs : zs.flatten.length ≤ 31 := by omega
  walk_at "mine steps"
  (rename News _ _ _ _ => N₃); (rename Fr _ _ _ _ => F₃)
  (rename IntsAre _ (List.take 30 _) => hI)
  have hIl := hI.length
  refine compAt_M QuotOf rfl F₃ N₃ (by k_mem) (by omega) (fun C v s₃ m₃ E' hv _ hn hx' hk => elt_quot rfl rfl (by decide) (ints_mem hI v hv) hn hx') ?_
  intro D₄ h₄' tk₄ qs k₄ F₄ N₄ l7 hP₄
  obtain ⟨ms, hms, hml⟩ := QuotOf.ints hP₄
  have hql := hms.length
  clear F₃ N₃
  have hne₄ : @Ne Nat D₄ 58 := Ne.symm (l7 (58, _) (by k_mem))
  clear l7
  walk_at "mine steps"
  (rename Fr _ _ _ _ => F₅)
  refine goodW_bool F₅ (by assumption) (fun _ => rfl) ?_
  wrow_post
end Mine

theorem PySem.Challenge.cw_dz0059_01_holds : PySem.Challenge.rw_dz0059_01.Holds :=
  Mine.final
