import PyProof.Rows.All
import Wide.All
import OpenK.AllK
import Wide.FinOn
import Lean
import PySem.Challenge.RW_mr0055_01
open PySem PySem.W PySem.W.X PySem.W.ZRun PySem.Calls PyProof.Rows
set_option Elab.async false
set_option linter.all false
set_option maxRecDepth 100000 in
set_option maxHeartbeats 0 in
open_top Mine.hk for PySem.Challenge.rw_mr0055_01
section
local macro_rules | `(tactic| k_head) => `(tactic| z_head)
set_option maxRecDepth 100000 in
set_option maxHeartbeats 0 in
open_top Mine.hd for PySem.Challenge.rw_mr0055_01
end
section -- MBase
namespace Mine
/-- the objects of the top that nothing changes -/
noncomputable def K2 (P : Params) : Frag := (hd.heap_103 P).filter fun p => !(Nat.beq p.1 61) && !(Nat.beq p.1 23)
noncomputable abbrev Ext (h h' : Heap) : Prop := ∀ b o, h.get? b = some o → h'.get? b = some o
noncomputable abbrev Ar (d u : Nat) : Around := { handled := none, depth := d, frames := none, guards := none, units := u }

theorem weaken {α : Type} {M : Model} {A : Around} {d u : Nat} {t : Sem α} {Q : α → Shared → Prop} {E : Value → Shared → Prop} {s : Shared}
    (hh : A.handled = none) (hd : A.depth ≤ d) (hu : A.units ≤ u) (h : wpAny M (Ar d u) t Q E s) : wpAny M A t Q E s :=
  fun Γ p hΓ => h Γ p ⟨hΓ.1.trans hh, Nat.le_trans hΓ.2.1 hd, fun _ e => (nomatch e), fun _ e => (nomatch e), Nat.le_trans hΓ.2.2.2.2 hu⟩

theorem weakenC {M : Model} {A : Around} {d u : Nat} {c : Code} {R : Result → Shared → Prop} {s : Shared}
    (hh : A.handled = none) (hd : A.depth ≤ d) (hu : A.units ≤ u) (h : codeAny M (Ar d u) c R s) : codeAny M A c R s :=
  fun Γ p hc hΓ => h Γ p hc ⟨hΓ.1.trans hh, Nat.le_trans hΓ.2.1 hd, fun _ e => (nomatch e), fun _ e => (nomatch e), Nat.le_trans hΓ.2.2.2.2 hu⟩

section
variable {prog : Program} {w : World} {A : Around} {s : Shared} {K : Frag} {R : Result → Shared → Prop} {name qual : Str} {params : Arguments} {body : List Stmt} {scope : Scope} {dV kV doc pm cdv ct oc : Value} {an od : Option Addr} {osl : Array (Option Value)} {f : Addr} {args : Args} {binds : List (Str × Value)}
theorem enter (X : K.In s.heap) (hlim : s.heap.NoLimit)
    (ho : K.lookup f = some ⟨oc, od, .func (fnOf name qual params body scope dV kV doc pm an cdv ct), osl⟩) (hcd : codeIn K cdv qual = true) (hroom : A.depth < recursionLimit)
    (hbind : BindsTo s (fnOf name qual params body scope dV kV doc pm an cdv ct) args binds) (hloc : ∀ y ∈ binds, scope.names.lookup y.1 = some .local)
    (h : ∀ L' h₁, Fr s.heap L' h₁ (fun y => binds.reverse.lookup y) → News s.heap L' h₁ [] →
      wpAny (model prog w) (A.deeper (envOf qual scope L' f cdv)) (execs body (envOf qual scope L' f cdv))
        (fun fl s' => R (.ok (.ret (match fl with | .ret v => v | _ => .none))) s')
        (fun _ _ => False)
        { s with heap := h₁, toks := s.toks + binds.length })
    (hco : scope.isCoroutine = false) (hgen : scope.isGenerator = false) (hk : scope.kind = .function)
    (hcell : ∀ x ∈ scope.names, x.2 ≠ .cell) : codeAny (model prog w) A (.call (.ref f) args) R s := by
  refine codeAny_call_def (fd := fnOf name qual params body scope dV kV doc pm an cdv ct) (body := body) (binds := binds) hroom (X _ _ ho) rfl hlim (codeRec_of X hcd) rfl hbind hcell hloc (fun h₁ hns hk₁ => ?_) hco hgen hk
  exact wpAny_mono (h s.heap.objs.size h₁ ⟨hns, hk₁, Nat.le_refl _⟩ News.nil) (fun _ _ x => x) (fun _ _ x => x.elim)

theorem enterC (X : K.In s.heap) (hlim : s.heap.NoLimit)
    (ho : K.lookup f = some ⟨oc, od, .func (fnOf name qual params body scope dV kV doc pm an cdv ct), osl⟩) (hcd : codeIn K cdv qual = true) (hroom : A.depth < recursionLimit)
    (hbind : BindsTo s (fnOf name qual params body scope dV kV doc pm an cdv ct) args binds) (hkind : (binds.all fun y => scope.names.lookup y.1 == some .local || scope.names.lookup y.1 == some .cell) = true)
    (hnd : ((cellsFrom 0 scope.names []).map (·.1)).Nodup)
    (h : ∀ L' h₁ tk cells, Fr s.heap L' h₁ (bindL (envOfC qual scope L' f cdv).kindOf binds fun _ => none) → News s.heap L' h₁ cells →
      CellsAre (bindC (envOfC qual scope L' f cdv).kindOf binds fun _ => none) (cellsFrom (L' + 1) scope.names []) cells →
      wpAny (model prog w) (A.deeper (envOfC qual scope L' f cdv)) (execs body (envOfC qual scope L' f cdv))
        (fun fl s' => R (.ok (.ret (match fl with | .ret v => v | _ => .none))) s')
        (fun _ _ => False)
        { s with heap := h₁, toks := tk })
    (hco : scope.isCoroutine = false) (hgen : scope.isGenerator = false) (hk : scope.kind = .function) : codeAny (model prog w) A (.call (.ref f) args) R s := by
  refine codeAny_call_function hroom (X _ _ ho) rfl hco hgen rfl (codeRec_of X hcd) (hbind _ _ _ _ ?_)
  refine wpAny_newFunctionEnv_cells hk (kindsX hkind _) fun env' he s' x => ?_
  subst he
  refine ⟨hlim.keeps x.toInCall.keep, codeAny_func ?_⟩
  obtain ⟨h₁, tk, rfl, _⟩ := x.done
  obtain ⟨cells, NC, Y⟩ := Cl.news (h₀ := s.heap) (Nat.le_refl _) fun n c hm => ⟨x.cell n c (lookup_of_mem_nodup (cellsFrom_names scope.names 0 (s.heap.objs.size + 1) [] [] rfl ▸ hnd) hm), x.above n c hm⟩
  exact wpAny_mono (h s.heap.objs.size h₁ tk cells ⟨x.toInCall.ns, x.toInCall.keep, Nat.le_refl _⟩ NC Y) (fun _ _ x => x) (fun _ _ x => x.elim)
end
end Mine
end
section -- MR
namespace Mine
noncomputable def den : Code → Sem PySem.Fin := Fast.tw11892475500146522536 Fast.tw14364793385576792824
theorem den_eq : denote table = den := by
  unfold den
  rw [← Fast.te11892475500146522536, ← Fast.te14364793385576792824, table_eq_tree]
noncomputable def pyIterF : Value → Sem Value := Fast.tw8711993805878244202
theorem pyIterF_eq : pyIter = pyIterF := Fast.te8711993805878244202
/-- a run's state: the new objects, their number, the tokens drawn, the tables grown, the ints to be written anew (when, what), those that were -/
structure RS where
  T : BT
  m : Nat
  i : Nat
  ch : Ch
  q : List (Nat × Int)
  ob : List (Int × Int)
noncomputable abbrev RunT := ((α : Type) → Sem α → RS → Option (Except Value α × RS)) × (Code → RS → Option (Result × RS))
/-- an answer that is an int is written anew, if its hour has come: that it is the same is noted -/
noncomputable def fix (r : Result) (st : RS) : Result × RS := match r with
  | .ok f => match f with
    | .ret v => match v with
      | .int x t => match st.q with
        | [] => (.ok (.ret (.int x t)), st)
        | p :: q => match Nat.beq p.1 st.i with
          | true => (.ok (.ret (.int p.2 t)), { st with q := q, ob := (x, p.2) :: st.ob })
          | false => (.ok (.ret (.int x t)), st)
      | v => (.ok (.ret v), st)
    | f => (.ok f, st)
  | .error e => (.error e, st)
/-- a comprehension's start: its iterator, the loop behind it -/
noncomputable def startOf (c : Code) : Option (Value × Code) := match c with
  | .compStart e d it acc env => match d with
    | 0 => match e with
      | .ListComp _ gens _ _ => match gens with
        | [] => none
        | g :: _ => match g with
          | ⟨_, _, _, a⟩ => match decide (a = 0) with
            | true => some (it, .compLoop e 0 it acc env)
            | false => none
      | _ => none
    | _ + 1 => none
  | _ => none
/-- a list of eight items and more, plainly made -/
noncomputable def longOf (o : Obj) : Option (List Value × List Value) := match o with
  | ⟨c, d, dt, sl⟩ => match decide (c = .type "list") with
    | true => match d with
      | none => match sl.toList with
        | [] => match dt with
          | .seq xs _ => match xs.toList with
            | a0 :: a1 :: a2 :: a3 :: a4 :: a5 :: a6 :: a7 :: r => some ([a0, a1, a2, a3, a4, a5, a6, a7], r)
            | _ => none
          | _ => none
        | _ => none
      | some _ => none
    | false => none
noncomputable def plainOf (o : Obj) : Option (List Value) := match o with
  | ⟨c, d, dt, sl⟩ => match decide (c = .type "list") with
    | true => match d with
      | none => match sl.toList with
        | [] => match dt with
          | .seq xs _ => some xs.toList
          | _ => none
        | _ => none
      | some _ => none
    | false => none
/-- a slice from 1 to 8 -/
noncomputable def is18 (o : Obj) : Bool := match o with
  | ⟨c, _, dt, _⟩ => match decide (c = .type "slice") with
    | true => match dt with
      | .fields vs => match vs.toList with
        | [.int a _, .int b _, .none] => decide (a = 1) && decide (b = 8)
        | _ => false
      | _ => false
    | false => false
noncomputable def putNew (V : XV) (st : RS) (vs : List Value) (n : Nat) : Option (Result × RS) :=
  match (st.T.ins st.m { cls := .type "list", data := .seq ⟨vs⟩ }).get st.m with
  | some _ => some (.ok (.ret (.ref (V.n₁ + st.m))), { st with T := st.T.ins st.m { cls := .type "list", data := .seq ⟨vs⟩ }, m := st.m + 1, ob := (((min n sizeLine : Nat) : Int), (n : Int)) :: st.ob })
  | none => none
/-- the sum, the cut of a long list -/
noncomputable def longCode (V : XV) (st : RS) (c : Code) : Option (Result × RS) := match c with
  | .builtin id args => match args with
    | ⟨pos, kw⟩ => match kw with
      | [] => match pos with
        | [x, y] => match x with
          | .ref l => match y with
            | .ref b => match look V st.T st.ch l with
              | some o => match longOf o with
                | some q => match decide (id = "list.__add__") with
                  | true => match look V st.T st.ch b with
                    | some o2 => match plainOf o2 with
                      | some ys => putNew V st ((q.1 ++ q.2) ++ ys) ((q.1 ++ q.2).length + ys.length)
                      | none => none
                    | none => none
                  | false => match decide (id = "list.__getitem__") with
                    | true => match look V st.T st.ch b with
                      | some o2 => match is18 o2 with
                        | true => putNew V st ((q.1.drop 1)) (q.1 ++ q.2).length
                        | false => none
                      | none => none
                    | false => none
                | none => none
              | none => none
            | _ => none
          | _ => none
        | _ => none
      | _ => none
  | _ => none
/-- a new enumerate of a list -/
noncomputable def enumCode (V : XV) (st : RS) (c : Code) : Option (Result × RS) := match c with
  | .builtin id args => match args with
    | ⟨pos, kw⟩ => match kw with
      | [] => match pos with
        | [x, y] => match x with
          | .type t => match y with
            | .ref l => match decide (t = "enumerate") with
              | true => match decide (id = "enumerate.__new__") with
                | true => match look V st.T st.ch l with
                  | some o => match plainOf o with
                    | some _ => match (st.T.ins st.m { cls := .type "list_iterator", data := .fields #[.ref l, .int 0 0] }).get st.m with
                      | some _ => match ((st.T.ins st.m { cls := .type "list_iterator", data := .fields #[.ref l, .int 0 0] }).ins (st.m + 1) { cls := .type "enumerate", data := .fields #[.none, .bool false, .ref (V.n₁ + st.m), rawInt 0, .none, .none] }).get (st.m + 1) with
                        | some _ => some (.ok (.ret (.ref (V.n₁ + (st.m + 1)))), { st with T := (st.T.ins st.m { cls := .type "list_iterator", data := .fields #[.ref l, .int 0 0] }).ins (st.m + 1) { cls := .type "enumerate", data := .fields #[.none, .bool false, .ref (V.n₁ + st.m), rawInt 0, .none, .none] }, m := st.m + 1 + 1 })
                        | none => none
                      | none => none
                    | none => none
                  | none => none
                | false => none
              | false => none
            | _ => none
          | _ => none
        | _ => none
      | _ => none
  | _ => none
noncomputable def R (V : XV) (wr : Bool) : Nat → RunT
  | 0 => (fun _ _ _ => none, fun _ _ => none)
  | n + 1 =>
    (fun α t st => match t with
      | .pure a => some (.ok a, st)
      | .raise e => some (.error e, st)
      | .rule _ k => (R V wr n).1 α (k ()) st
      | .at _ k => (R V wr n).1 α (k ()) st
      | .point _ k => (R V wr n).1 α (k ()) st
      | .ask k => (R V wr n).1 α (k ⟨V.prog, V.w.params⟩) st
      | .load a _ k => match look V st.T st.ch a with
        | some o => (R V wr n).1 α (k o) st
        | none => none
      | .alloc o k => match wr with
        | false => none
        | true => match o.isFreed with
          | true => none
          | false => match (st.T.ins st.m o).get st.m with
            | some _ => (R V wr n).1 α (k (V.n₁ + st.m)) { st with T := st.T.ins st.m o, m := st.m + 1 }
            | none => none
      | .update a _ f k => match wr with
       | false => none
       | true => match Nat.blt a V.n₁ with
        | false => match st.T.get (a - V.n₁) with
          | some o => match (f o).isFreed with
            | true => none
            | false => (R V wr n).1 α (k ()) { st with T := st.T.set (a - V.n₁) f }
          | none => none
        | true => match nowTab V st.ch a with
          | some vs => match tabOf (f (tableObj vs)) with
            | some vs' => match strip vs.toList vs'.toList with
              | some _ => (R V wr n).1 α (k ()) { st with ch := chPut st.ch a vs' }
              | none => none
            | none => none
          | none => none
      | .fresh k => match wr with
        | false => none
        | true => (R V wr n).1 α (k (V.t₀ + st.i)) { st with i := st.i + 1 }
      | .handled own k => match own with
        | false => (R V wr n).1 α (k none) st
        | true => none
      | .call c hd _ _ k => match hd with
        | none => match (R V wr n).2 c st with
          | some (r, st') => (R V wr n).1 α (k r) st'
          | none => none
        | some _ => none
      | _ => none,
     fun c st => match (match wr with | true => (match longCode V st c with | some x => some x | none => enumCode V st c) | false => none) with
      | some x => some x
      | none => match startOf c with
      | some (it, c') => match (R V false n).1 Value (pyIterF it) st with
        | some (.ok v, _) => match decide (v = it) with
          | true => (R V wr n).2 c' st
          | false => none
        | _ => none
      | none => match (R V wr n).1 PySem.Fin (den c) st with
        | some (.ok (.done f), st') => match wr with
          | true => some (fix (.ok f) st')
          | false => some (.ok f, st')
        | some (.ok (.again c'), st') => match c'.quiet with
          | true => (R V wr n).2 c' st'
          | false => none
        | some (.error e, st') => some (.error e, st')
        | none => none)

noncomputable def ObOk (l : List (Int × Int)) : Prop := ∀ p ∈ l, p.1 = p.2
theorem fix_ob {r r' : Result} {st st' : RS} (e : fix r st = (r', st')) : (ObOk st'.ob → ObOk st.ob) ∧ (ObOk st'.ob → r' = r) ∧ st'.T = st.T ∧ st'.m = st.m ∧ st'.i = st.i ∧ st'.ch = st.ch := by
  unfold fix at e
  split at e
  · split at e
    · split at e
      · split at e
        · cases e; exact ⟨id, fun _ => rfl, rfl, rfl, rfl, rfl⟩
        · split at e
          · cases e
            refine ⟨fun h p hp => h p (.tail _ hp), fun h => ?_, rfl, rfl, rfl, rfl⟩
            have := h _ (.head _)
            simp only at this
            rw [this]
          · cases e; exact ⟨id, fun _ => rfl, rfl, rfl, rfl, rfl⟩
      · cases e; exact ⟨id, fun _ => rfl, rfl, rfl, rfl, rfl⟩
    · cases e; exact ⟨id, fun _ => rfl, rfl, rfl, rfl, rfl⟩
  · cases e; exact ⟨id, fun _ => rfl, rfl, rfl, rfl, rfl⟩

theorem putNew_ok {V : XV} {st st' : RS} {vs : List Value} {n : Nat} {r : Result} (e : putNew V st vs n = some (r, st')) :
    r = .ok (.ret (.ref (V.n₁ + st.m))) ∧ (ObOk st'.ob → ObOk st.ob ∧ n ≤ sizeLine) ∧ st'.i = st.i ∧
    (∀ h, V.Ok → Rep V h st.T st.m st.ch → Rep V (h.push { cls := .type "list", data := .seq ⟨vs⟩ }) st'.T st'.m st'.ch) := by
  unfold putNew at e
  split at e
  · rename_i e1
    cases e
    refine ⟨rfl, fun h => ⟨fun p hp => h p (.tail _ hp), ?_⟩, rfl, fun h O D => D.alloc O rfl (by rw [e1]; rfl)⟩
    have := h _ (.head _)
    simp only at this
    omega
  · cases e
theorem longOf_ok {o : Obj} {q : List Value × List Value} (e : longOf o = some q) : ∃ n, o = ⟨.type "list", none, .seq ⟨q.1 ++ q.2⟩ n, #[]⟩ ∧ q.1.length = 8 := by
  unfold longOf at e
  split at e
  split at e
  · rename_i hc
    have hc := of_decide_eq_true hc
    subst hc
    split at e
    · split at e
      · rename_i hs
        split at e
        · rename_i xs n
          split at e
          · rename_i hx
            cases e
            have hs : _ = (#[] : Array (Option Value)) := Array.ext' hs
            subst hs
            refine ⟨n, ?_, rfl⟩
            congr
            exact Array.ext' hx
          · cases e
        · cases e
      · cases e
    · cases e
  · cases e
theorem plainOf_ok {o : Obj} {ys : List Value} (e : plainOf o = some ys) : ∃ n, o = ⟨.type "list", none, .seq ⟨ys⟩ n, #[]⟩ := by
  unfold plainOf at e
  split at e
  split at e
  · rename_i hc
    have hc := of_decide_eq_true hc
    subst hc
    split at e
    · split at e
      · rename_i hs
        split at e
        · rename_i xs n
          cases e
          have hs : _ = (#[] : Array (Option Value)) := Array.ext' hs
          subst hs
          exact ⟨n, rfl⟩
        · cases e
      · cases e
    · cases e
  · cases e
theorem is18_ok {o : Obj} (e : is18 o = true) : ∃ t u, o.cls = .type "slice" ∧ o.data = .fields #[.int 1 t, .int 8 u, .none] := by
  unfold is18 at e
  split at e
  split at e
  · rename_i hc
    have hc := of_decide_eq_true hc
    subst hc
    split at e
    · split at e
      · rename_i hv
        rw [Bool.and_eq_true] at e
        have e1 := of_decide_eq_true e.1
        have e2 := of_decide_eq_true e.2
        subst e1 e2
        exact ⟨_, _, rfl, congrArg Data.fields (Array.ext' hv)⟩
      · cases e
    · cases e
  · cases e
theorem longCode_ok {V : XV} {st st' : RS} {c : Code} {r : Result} (e : longCode V st c = some (r, st')) :
    (∃ l b o o2 q ys, c = .builtin "list.__add__" ⟨[.ref l, .ref b], []⟩ ∧ look V st.T st.ch l = some o ∧ longOf o = some q ∧ look V st.T st.ch b = some o2 ∧ plainOf o2 = some ys ∧ putNew V st ((q.1 ++ q.2) ++ ys) ((q.1 ++ q.2).length + ys.length) = some (r, st')) ∨
    (∃ l b o o2 q, c = .builtin "list.__getitem__" ⟨[.ref l, .ref b], []⟩ ∧ look V st.T st.ch l = some o ∧ longOf o = some q ∧ look V st.T st.ch b = some o2 ∧ is18 o2 = true ∧ putNew V st (q.1.drop 1) (q.1 ++ q.2).length = some (r, st')) := by
  unfold longCode at e
  repeat' (split at e)
  all_goals first
    | (cases e; done)
    | (rename_i h1 _ q h2 _ hid _ o2 h3 _ ys h4
       have hid := of_decide_eq_true hid
       subst hid
       exact .inl ⟨_, _, _, _, _, _, rfl, h1, h2, h3, h4, e⟩)
    | (rename_i h1 _ q h2 _ hna _ hid _ o2 h3 _ h4
       have hid := of_decide_eq_true hid
       subst hid
       exact .inr ⟨_, _, _, _, _, rfl, h1, h2, h3, h4, e⟩)
theorem enumCode_ok {V : XV} {st st' : RS} {c : Code} {r : Result} (e : enumCode V st c = some (r, st')) :
    ∃ l o ys, c = .builtin "enumerate.__new__" ⟨[.type "enumerate", .ref l], []⟩ ∧ look V st.T st.ch l = some o ∧ plainOf o = some ys ∧ r = .ok (.ret (.ref (V.n₁ + (st.m + 1)))) ∧ st'.ob = st.ob ∧ st'.i = st.i ∧
    (∀ h, V.Ok → Rep V h st.T st.m st.ch → Rep V ((h.push { cls := .type "list_iterator", data := .fields #[.ref l, .int 0 0] }).push { cls := .type "enumerate", data := .fields #[.none, .bool false, .ref (V.n₁ + st.m), rawInt 0, .none, .none] }) st'.T st'.m st'.ch) := by
  unfold enumCode at e
  repeat' (split at e)
  all_goals first
    | (cases e; done)
    | (rename_i ht _ hid _ o h1 _ ys h2 _ _ g1 _ _ g2
       have hid := of_decide_eq_true hid
       have ht := of_decide_eq_true ht
       subst hid ht
       cases e
       exact ⟨_, _, _, rfl, h1, h2, rfl, rfl, rfl, fun h O D => (D.alloc O rfl (by rw [g1]; rfl)).alloc O rfl (by rw [g2]; rfl)⟩)
theorem under_enum (A : Around) (args : Args) : A.under (.builtin "enumerate.__new__" args) = A.in1 := rfl
/-- the two codes -/
theorem under_add (A : Around) (args : Args) : A.under (.builtin "list.__add__" args) = A.in1 := rfl
theorem slice_code {prog : Program} {w : World} {A : Around} {s : Shared} {P : Result → Shared → Prop} {l sl : Addr} {items : Array Value} {o os : Obj} {n : Nat} {t u : Tok}
    (ho : s.heap.get? l = some o) (hd : o.data = .seq items n) (hos : s.heap.get? sl = some os) (hcs : os.cls = .type "slice") (hds : os.data = .fields #[.int 1 t, .int 8 u, .none]) (hsz : items.size ≤ sizeLine)
    (h : P (.ok (.ret (.ref s.heap.objs.size))) { s with heap := s.heap.push { cls := .type "list", data := .seq (slicePick items (some 1) (some 8) none) } }) :
    codeAny (model prog w) A (.builtin "list.__getitem__" ⟨[.ref l, .ref sl], []⟩) P s := by
  have hTs : s.TypeIs (.ref sl) "slice" := ⟨os, hos, hcs⟩
  refine codeAny_builtin PySem.F.entry_list_getitem ?_
  show wpAny _ _ (Builtin.List.listSubscript? (.ref sl) >>= _) _ _ s
  refine wpAny_bind ?_
  unfold Builtin.List.listSubscript?
  refine wpAny_bind (wpAny_specialOf hTs slice_no_index ?_)
  simp only [Option.isNone_none, if_true]
  refine wpAny_pure ?_
  show wpAny _ _ (typeOf (.ref sl) >>= _) _ _ s
  refine wpAny_bind (wpAny_typeOf hTs ?_)
  rw [if_neg (by decide)]
  rw [listSliceParts_eq]
  refine wpAny_bind (wpAny_bind (wpAny_field hos hds (x := .none) rfl (wpAny_bind (wpAny_listPart .none ?_))))
  rw [if_neg (by decide)]
  refine wpAny_bind (wpAny_field hos hds (x := .int 1 t) rfl (wpAny_bind (wpAny_listPart (.int 1 t) ?_)))
  refine wpAny_bind (wpAny_field hos hds (x := .int 8 u) rfl (wpAny_bind (wpAny_listPart (.int 8 u) (wpAny_pure ?_))))
  refine wpAny_bind (m := Builtin.List.listItems (.ref l)) ?_
  unfold Builtin.List.listItems
  refine wpAny_bind (wpAny_seqItems ho hd (wpAny_pure ?_))
  refine wpAny_bind (wpAny_of_eq (sliceIndices_raw (some 1) (some 8) none items.size (by simp)) ?_)
  exact wpAny_bind (wpAny_newObj_type (wpAny_pure h) (Nat.le_trans (slicePick_size_le items (some 1) (some 8) none) hsz))
theorem R_ob (V : XV) : ∀ (n : Nat) (wr : Bool), (∀ (α : Type) (t : Sem α) (st : RS) r st', (R V wr n).1 α t st = some (r, st') → (ObOk st'.ob → ObOk st.ob) ∧ (wr = false → st' = st)) ∧
    (∀ c st r st', (R V wr n).2 c st = some (r, st') → (ObOk st'.ob → ObOk st.ob) ∧ (wr = false → st' = st))
  | 0, _ => ⟨fun _ _ _ _ _ e => (nomatch e), fun _ _ _ _ e => (nomatch e)⟩
  | n + 1, wr => by
    have ih := R_ob V n wr
    refine ⟨fun α t st r st' e => ?_, fun c st r st' e => ?_⟩
    · cases t <;> simp only [R] at e
      case pure => cases e; exact ⟨id, fun _ => rfl⟩
      case raise => cases e; exact ⟨id, fun _ => rfl⟩
      case rule => exact ih.1 _ _ _ _ _ e
      case «at» => exact ih.1 _ _ _ _ _ e
      case point => exact ih.1 _ _ _ _ _ e
      case ask => exact ih.1 _ _ _ _ _ e
      case load => split at e <;> first | exact ih.1 _ _ _ _ _ e | cases e
      case alloc =>
        split at e
        · cases e
        · split at e
          · cases e
          · split at e
            · exact ⟨(ih.1 _ _ _ _ _ e).1, fun h => (nomatch h)⟩
            · cases e
      case update =>
        split at e
        · cases e
        · split at e
          · split at e
            · split at e
              · cases e
              · exact ⟨(ih.1 _ _ _ _ _ e).1, fun h => (nomatch h)⟩
            · cases e
          · split at e
            · split at e
              · split at e
                · exact ⟨(ih.1 _ _ _ _ _ e).1, fun h => (nomatch h)⟩
                · cases e
              · cases e
            · cases e
      case fresh =>
        split at e
        · cases e
        · exact ⟨(ih.1 _ _ _ _ _ e).1, fun h => (nomatch h)⟩
      case handled => split at e <;> first | exact ih.1 _ _ _ _ _ e | cases e
      case call =>
        split at e
        · split at e
          · rename_i e1
            have a := ih.2 _ _ _ _ e1
            have b := ih.1 _ _ _ _ _ e
            exact ⟨fun h => a.1 (b.1 h), fun h => (b.2 h).trans (a.2 h)⟩
          · cases e
        · cases e
      all_goals cases e
    · simp only [R] at e
      split at e
      · rename_i el
        cases e
        split at el
        · split at el
          · rename_i el'
            cases el
            rcases longCode_ok el' with ⟨_, _, _, _, _, _, _, _, _, _, _, ep⟩ | ⟨_, _, _, _, _, _, _, _, _, _, ep⟩ <;> exact ⟨fun h => ((putNew_ok ep).2.1 h).1, fun h => (nomatch h)⟩
          · obtain ⟨_, _, _, _, _, _, _, e4, _⟩ := enumCode_ok el
            exact ⟨fun h => by rw [← e4]; exact h, fun h => (nomatch h)⟩
        · cases el
      split at e
      · split at e
        · split at e
          · exact ih.2 _ _ _ _ e
          · cases e
        · cases e
      · split at e
        · rename_i e1
          have a := ih.1 _ _ _ _ _ e1
          split at e
          · have b := fix_ob (Option.some.inj e)
            exact ⟨fun h => a.1 (b.1 h), fun h => (nomatch h)⟩
          · cases e; exact a
        · rename_i e1
          have a := ih.1 _ _ _ _ _ e1
          split at e
          · have b := ih.2 _ _ _ _ e
            exact ⟨fun h => a.1 (b.1 h), fun h => (b.2 h).trans (a.2 h)⟩
          · cases e
        · rename_i e1
          have a := ih.1 _ _ _ _ _ e1
          cases e; exact a
        · cases e

noncomputable abbrev sh (V : XV) (g : Array GenState) (h : Heap) (st : RS) : Shared := ⟨h, g, V.d, V.t₀ + st.i, V.os⟩
noncomputable def after {α : Type} (Q : α → Shared → Prop) (E : Value → Shared → Prop) (r : Except Value α) (s : Shared) : Prop := match r with
  | .ok a => Q a s
  | .error e => E e s
theorem startOf_is {c c' : Code} {it : Value} (e : startOf c = some (it, c')) : ∃ elt target iter ifs rest scope pos acc env, c = .compStart (.ListComp elt (⟨target, iter, ifs, 0⟩ :: rest) scope pos) 0 it acc env ∧ c' = .compLoop (.ListComp elt (⟨target, iter, ifs, 0⟩ :: rest) scope pos) 0 it acc env := by
  unfold startOf at e
  split at e
  · split at e
    · split at e
      · split at e
        · cases e
        · split at e
          split at e
          · rename_i h
            have := of_decide_eq_true h
            subst this
            cases e
            exact ⟨_, _, _, _, _, _, _, _, _, rfl, rfl⟩
          · cases e
      · cases e
    · cases e
  · cases e
theorem R_long {V : XV} (O : V.Ok) (g : Array GenState) {c : Code} {st st' : RS} {r : Result} (el : longCode V st c = some (r, st')) (h : Heap) (A : Around) (P : Result → Shared → Prop) (hA : A.handled = none) (D : Rep V h st.T st.m st.ch) (ho : ObOk st'.ob)
    (k : ∀ h', Rep V h' st'.T st'.m st'.ch → P r (sh V g h' st')) : codeAny (model V.prog V.w) A c P (sh V g h st) := by
  rcases longCode_ok el with ⟨l, b, o, o2, q, ys, rfl, h1, h2, h3, h4, ep⟩ | ⟨l, b, o, o2, q, rfl, h1, h2, h3, h4, ep⟩
  · obtain ⟨rfl, p2, p3, p4⟩ := putNew_ok ep
    obtain ⟨n1, rfl, _⟩ := longOf_ok h2
    obtain ⟨n2, rfl⟩ := plainOf_ok h4
    refine codeAny_builtin PySem.F.entry_list_add ?_
    rw [under_add]
    refine PySem.AutoSeq1.list___add___list_list_0 l ⟨q.1 ++ q.2⟩ n1 b ⟨ys⟩ n2 (p2 ho).2 V.prog V.w A P _ ⟨D.look O h1, D.look O h3, ?_⟩
    have z := k _ (p4 h O D)
    have hs : sh V g (h.push { cls := .type "list", data := .seq ⟨(q.1 ++ q.2) ++ ys⟩ }) st' = { sh V g h st with heap := h.push { cls := .type "list", data := .seq ((⟨q.1 ++ q.2⟩ : Array Value) ++ ⟨ys⟩) } } := by
      unfold sh; rw [p3]; congr 3; simp
    rw [hs, ← D.size] at z
    exact z
  · obtain ⟨rfl, p2, p3, p4⟩ := putNew_ok ep
    obtain ⟨n1, rfl, h8⟩ := longOf_ok h2
    obtain ⟨t, u, hc, hd⟩ := is18_ok h4
    refine slice_code (D.look O h1) rfl (D.look O h3) hc hd (p2 ho).2 ?_
    have z := k _ (p4 h O D)
    have e8 : slicePick (⟨q.1 ++ q.2⟩ : Array Value) (some 1) (some 8) none = ⟨q.1.drop 1⟩ := by
      have := slicePick_run (⟨q.1 ++ q.2⟩ : Array Value) 1 8 (by show 8 ≤ (q.1 ++ q.2).length; rw [List.length_append]; omega) (by omega)
      refine this.trans ?_
      congr 1
      show (List.take 7 (List.drop 1 (q.1 ++ q.2))) = _
      rw [List.drop_append_of_le_length (by omega), List.take_append_of_le_length (by rw [List.length_drop]; omega), List.take_of_length_le (by rw [List.length_drop]; omega)]
    have hs : sh V g (h.push { cls := .type "list", data := .seq ⟨q.1.drop 1⟩ }) st' = { sh V g h st with heap := h.push { cls := .type "list", data := .seq (slicePick (⟨q.1 ++ q.2⟩ : Array Value) (some 1) (some 8) none) } } := by
      unfold sh; rw [p3, e8]
    rw [hs, ← D.size] at z
    exact z

theorem R_sound {V : XV} (O : V.Ok) (g : Array GenState) : ∀ (n : Nat) (wr : Bool),
    (∀ (α : Type) (t : Sem α) (st : RS) r st', (R V wr n).1 α t st = some (r, st') → ∀ h (A : Around) (Q : α → Shared → Prop) (E : Value → Shared → Prop), A.handled = none → Rep V h st.T st.m st.ch → ObOk st'.ob →
      (∀ h', Rep V h' st'.T st'.m st'.ch → after Q E r (sh V g h' st')) → wpAny (model V.prog V.w) A t Q E (sh V g h st)) ∧
    (∀ c st r st', (R V wr n).2 c st = some (r, st') → ∀ h (A : Around) (P : Result → Shared → Prop), A.handled = none → Rep V h st.T st.m st.ch → ObOk st'.ob →
      (∀ h', Rep V h' st'.T st'.m st'.ch → P r (sh V g h' st')) → codeAny (model V.prog V.w) A c P (sh V g h st))
  | 0, _ => ⟨fun _ _ _ _ _ e => (nomatch e), fun _ _ _ _ e => (nomatch e)⟩
  | n + 1, wr => by
    have ih := R_sound O g n wr
    have ihf := R_sound O g n false
    have ob := R_ob V n wr
    have obf := R_ob V n false
    refine ⟨fun α t st r st' e h A Q E hA D ho k => ?_, fun c st r st' e h A P hA D ho k => ?_⟩
    · cases t <;> simp only [R] at e
      case pure => cases e; exact wpAny_pure (k h D)
      case raise => cases e; exact x_raise (k h D)
      case rule => exact x_rule (ih.1 _ _ _ _ _ e h A Q E hA D ho k)
      case «at» => exact x_at (ih.1 _ _ _ _ _ e h A Q E hA D ho k)
      case point => exact x_point (ih.1 _ _ _ _ _ e h A Q E hA D ho k)
      case ask => exact x_ask (ih.1 _ _ _ _ _ e h A Q E hA D ho k)
      case load =>
        split at e
        · rename_i e1
          exact x_load (D.look O e1) (ih.1 _ _ _ _ _ e h A Q E hA D ho k)
        · cases e
      case alloc o kk =>
        split at e
        · cases e
        · split at e
          · cases e
          · rename_i hf
            split at e
            · rename_i e1
              have D' := D.alloc O hf (by rw [e1]; rfl)
              refine wpAny_bind (m := alloc o) (f := kk) (wpAny_alloc ?_)
              have z := ih.1 _ _ _ _ _ e (h.push o) A Q E hA D' ho k
              rw [← D.size] at z
              exact z
            · cases e
      case update a q f kk =>
        split at e
        · cases e
        · split at e
          · rename_i hb
            split at e
            · rename_i e1
              split at e
              · cases e
              · rename_i hf
                have D' := D.update O (blt_false hb) e1 hf
                have hz := (D.own _ _ e1).2
                rw [Nat.add_sub_cancel' (blt_false hb)] at hz
                exact wpAny_bind (m := updatePart a q f) (f := kk) (wpAny_updatePart hz (ih.1 _ _ _ _ _ e _ A Q E hA D' ho k))
            · cases e
          · split at e
            · rename_i e1
              split at e
              · rename_i e2
                split at e
                · rename_i e3
                  obtain ⟨hz, D'⟩ := D.table O e1 (tabOf_eq e2) e3
                  exact wpAny_bind (m := updatePart a q f) (f := kk) (wpAny_updatePart hz (ih.1 _ _ _ _ _ e _ A Q E hA D' ho k))
                · cases e
              · cases e
            · cases e
      case fresh =>
        split at e
        · cases e
        · exact x_fresh (ih.1 _ _ _ _ _ e h A Q E hA D ho k)
      case handled =>
        split at e
        · exact x_handled (by rw [hA]; exact ih.1 _ _ _ _ _ e h A Q E hA D ho k)
        · cases e
      case call c hd gd l kk =>
        split at e
        · split at e
          · rename_i r1 st1 e1
            refine x_call ?_ (by intro h; cases h)
            have z := ih.2 _ _ _ _ e1 h A (fun r s' => wpAny (model V.prog V.w) A (kk r) Q E s') hA D ((ob.1 _ _ _ _ _ e).1 ho) fun h' D' => ih.1 _ _ _ _ _ e h' A Q E hA D' ho k
            exact z
          · cases e
        · cases e
      all_goals cases e
    · simp only [R] at e
      split at e
      · rename_i el
        cases e
        split at el
        · split at el
          · rename_i el'
            cases el
            exact R_long O g el' h A P hA D ho k
          · obtain ⟨l, o, ys, rfl, h1, h2, rfl, h4, h5, h6⟩ := enumCode_ok el
            obtain ⟨n1, rfl⟩ := plainOf_ok h2
            refine codeAny_builtin PySem.F.entry_enumerate_new ?_
            rw [under_enum]
            refine PySem.meets_enumerate_new l ⟨ys⟩ n1 V.prog V.w A P _ ⟨D.look O h1, ?_⟩
            have z := k _ (h6 h O D)
            have hs : sh V g ((h.push { cls := .type "list_iterator", data := .fields #[.ref l, .int 0 0] }).push { cls := .type "enumerate", data := .fields #[.none, .bool false, .ref (V.n₁ + st.m), rawInt 0, .none, .none] }) st' = { sh V g h st with heap := (h.push { cls := .type "list_iterator", data := .fields #[.ref l, .int 0 0] }).push { cls := .type "enumerate", data := .fields #[.none, .bool false, .ref (V.n₁ + st.m), rawInt 0, .none, .none] } } := by
              unfold sh; rw [h5]
            rw [hs] at z
            rw [Heap.size_push, D.size]
            exact z
        · cases el
      split at e
      · rename_i it c' es
        split at e
        · rename_i v st1 e1
          split at e
          · rename_i hv
            have hv := of_decide_eq_true hv
            subst hv
            obtain ⟨elt, target, iter, ifs, rest, scope, pos, acc, env, rfl, rfl⟩ := startOf_is es
            have z := ih.2 _ _ _ _ e h A P hA D ho k
            have hs : st1 = st := (obf.1 _ _ _ _ _ e1).2 rfl
            subst hs
            refine codeAny_compStart_list z ?_
            rw [pyIterF_eq]
            exact ihf.1 _ _ _ _ _ e1 h A _ _ hA D ((ob.2 _ _ _ _ e).1 ho) fun h' D' => ih.2 _ _ _ _ e h' A P hA D' ho k
          · cases e
        · cases e
      · refine codeAny_of_tree ?_
        rw [show (model V.prog V.w).den c = den c from congrFun den_eq c]
        have hA' : (A.under c).handled = none := hA
        split at e
        · rename_i f st1 e1
          split at e
          · have b := fix_ob (Option.some.inj e)
            refine ih.1 _ _ _ _ _ e1 h _ _ _ hA' D (b.1 ho) fun h' D' => ?_
            have z := k h' (by rw [b.2.2.1, b.2.2.2.1, b.2.2.2.2.2]; exact D')
            have hi : sh V g h' st' = sh V g h' st1 := by unfold sh; rw [b.2.2.2.2.1]
            rw [b.2.1 ho, hi] at z
            exact z
          · cases e
            exact ih.1 _ _ _ _ _ e1 h _ _ _ hA' D ho fun h' D' => k h' D'
        · rename_i c' st1 e1
          split at e
          · rename_i hq
            refine ih.1 _ _ _ _ _ e1 h _ _ _ hA' D ((ob.2 _ _ _ _ e).1 ho) fun h' D' => ?_
            exact ⟨hq, ih.2 _ _ _ _ e h' A P hA D' ho k⟩
          · cases e
        · rename_i e0 st1 e1
          cases e
          exact ih.1 _ _ _ _ _ e1 h _ _ _ hA' D ho fun h' D' => k h' D'
        · cases e
end Mine
end
section -- MCls
namespace Mine
/-- a class of one base `object`, up to its body's frame: the name, the bases, the namespace, the body's place -/
noncomputable def clsPre (name bind : Str) (bases : List Expr) (scope : Scope) (env : Env) (pos : Pos) : Sem (Value × Value × Value × Env) := do
  standAt pos
  buildClassGuard env
  let a ← evalArgs (.builtin "__build_class__") false (backTo pos (starEach bases env)) (backToKw pos (keywordEach [] env))
  if a.pos = [.type "object"] ∧ a.kw = [] then
    standAt pos
    let givenT ← newTuple [.type "object"]
    let nameV ← mkText name
    match ← getAttr? (.type "type") "__prepare__" with
    | none => unsupported "own"
    | some prep =>
      match ← call prep [nameV, givenT] [] with
      | .ref nsA =>
        notTheModulesDict "class:the-namespace-that-__prepare__-gave" nsA
        match ← specialOf (.ref nsA) "__getitem__" with
        | none => unsupported "own"
        | some _ =>
          let code ← classCode env pos pos.line name (qualnameIn env name bind) scope
          let builtins ← builtinsFor env.globals env.builtins
          let frame ← newBodyFrame code env.globals nsA builtins
          let cl ← closureFor scope env
          pure (nameV, givenT, .ref nsA, { scope, locals := nsA, globals := env.globals, qual := qualnameIn env name bind ++ ".", code, frame := some frame, builtins, cells := cl })
      | _ => unsupported "own"
  else unsupported "own"
/-- the class itself, behind it -/
noncomputable def clsMid (name bind : Str) (body : List Stmt) (statics : List Str) (env : Env) (pos : Pos) (x : Value × Value × Value × Env) : Sem Value := do
  storeName x.2.2.2 "__module__" (← loadName x.2.2.2 "__name__")
  storeName x.2.2.2 "__qualname__" (← mkText (qualnameIn env name bind))
  storeName x.2.2.2 "__firstlineno__" (← mkInt pos.line)
  let _ ← run (.body body x.2.2.2)
  storeName x.2.2.2 "__static_attributes__" (← newTextTuple (← statics.mapM mkText))
  call (.type "type") [x.1, x.2.1, x.2.2.1] []
noncomputable def clsPost (name bind : Str) (body : List Stmt) (statics : List Str) (env : Env) (pos : Pos) (x : Value × Value × Value × Env) : Sem Flow := do
  let c ← clsMid name bind body statics env pos x
  standAt pos
  bindName env bind c
  pure .next
end Mine
end
section -- MClsB
namespace Mine
open Sem (wp)
theorem isType_o : isType (.type "object") = pure true := by kernel_rfl
theorem isType_t : isType (.type "type") = pure true := by kernel_rfl
theorem typeOf_o : typeOf (.type "object") = pure (.type "type") := by kernel_rfl
theorem sub_tt : isSubtype (.type "type") (.type "type") = pure true := by kernel_rfl
noncomputable abbrev NoE : Value → Pos → Shared → Prop := fun _ _ _ => False
noncomputable def Imp {α β : Type} (M : Model) (Γ : Ctx) (Q' : α → Pos → Shared → Prop) (Q : β → Pos → Shared → Prop) (t' : Sem α) (t : Sem β) : Prop := ∀ E p s, wp M Γ t' Q' NoE p s → wp M Γ t Q E p s
section
variable {α β γ δ : Type} {M : Model} {Γ : Ctx} {Q' : α → Pos → Shared → Prop} {Q : β → Pos → Shared → Prop}
theorem Imp.bind {t : Sem γ} {f' : γ → Sem α} {f : γ → Sem β} (k : ∀ x, Imp M Γ Q' Q (f' x) (f x)) : Imp M Γ Q' Q (t >>= f') (t >>= f) := fun E p s h => by
  rw [Sem.wp_bind'] at h ⊢
  exact Sem.wp_mono M Γ _ (fun x p s h => k x E p s h) (fun _ _ _ h => h.elim) p s h
theorem Imp.hold {t' : Sem α} {t : Sem β} {vs : List Value} (k : Imp M Γ Q' Q t' t) : Imp M Γ Q' Q t' (holding vs t) := fun E p s h => by
  rw [Sem.wp_holding]; exact k E p s h
theorem Imp.head {t' : Sem α} {t u : Sem γ} {f : γ → Sem β} (e : t = u) (k : Imp M Γ Q' Q t' (u >>= f)) : Imp M Γ Q' Q t' (t >>= f) := e ▸ k
theorem Imp.pureL {t' : Sem α} {a : γ} {f : γ → Sem β} (k : Imp M Γ Q' Q t' (f a)) : Imp M Γ Q' Q t' (pure a >>= f) := k
theorem Imp.eqb {t' : Sem α} {t : Sem γ} {a : γ} {f : γ → Sem β} (e : t = pure a) (k : Imp M Γ Q' Q t' (f a)) : Imp M Γ Q' Q t' (t >>= f) := Imp.head e k
theorem Imp.assoc {t' : Sem α} {t : Sem γ} {g : γ → Sem δ} {f : δ → Sem β} (k : Imp M Γ Q' Q t' (t >>= fun x => g x >>= f)) : Imp M Γ Q' Q t' ((t >>= g) >>= f) := fun E p s h => by
  have := k E p s h
  simp only [Sem.wp_bind'] at this ⊢
  exact this
theorem Imp.onRaise {t' : Sem α} {t : Sem γ} {e : Value → Sem Unit} {f : γ → Sem β} (k : Imp M Γ Q' Q t' (t >>= f)) : Imp M Γ Q' Q t' (t.onRaise e >>= f) := fun E p s h => by
  have := k NoE p s h
  rw [Sem.wp_bind'] at this ⊢
  rw [Sem.wp_onRaise]
  exact Sem.wp_mono M Γ _ (fun x p s h => Sem.wp_mono M Γ _ (fun _ _ _ h => h) (fun _ _ _ h => h.elim) p s h) (fun _ _ _ h => h.elim) p s this
theorem Imp.iteT {t' : Sem α} {c : Prop} [Decidable c] {a b : Sem β} (h : c) (k : Imp M Γ Q' Q t' a) : Imp M Γ Q' Q t' (if c then a else b) := by rw [if_pos h]; exact k
theorem Imp.iteF {t' : Sem α} {c : Prop} [Decidable c] {a b : Sem β} (h : ¬c) (k : Imp M Γ Q' Q t' b) : Imp M Γ Q' Q t' (if c then a else b) := by rw [if_neg h]; exact k
theorem Imp.iteTb {t' : Sem α} {c : Prop} [Decidable c] {a b : Sem γ} {f : γ → Sem β} (h : c) (k : Imp M Γ Q' Q t' (a >>= f)) : Imp M Γ Q' Q t' ((if c then a else b) >>= f) := by rw [if_pos h]; exact k
theorem Imp.iteFb {t' : Sem α} {c : Prop} [Decidable c] {a b : Sem γ} {f : γ → Sem β} (h : ¬c) (k : Imp M Γ Q' Q t' (b >>= f)) : Imp M Γ Q' Q t' ((if c then a else b) >>= f) := by rw [if_neg h]; exact k
theorem Imp.own {t : Sem β} {w : String} : Imp M Γ Q' Q (unsupported w) t := fun E p s h => by
  have : wp M Γ (Sem.unsupported w : Sem α) Q' NoE p s := h
  rw [Sem.wp_unsupported] at this
  exact this.elim
theorem Imp.lastP {t : Sem β} {f : β → Sem β} (e : ∀ c, f c = pure c) : Imp M Γ Q Q t (t >>= f) := fun E p s h => by
  rw [Sem.wp_bind']
  refine Sem.wp_mono M Γ _ (fun x p s h => ?_) (fun _ _ _ h => h.elim) p s h
  rw [e, Sem.wp_pure']
  exact h
theorem Imp.enter {x : α} {k' : α → Sem β} {r : Unit → Sem β} (k : Imp M Γ Q Q (k' x) (r ())) :
    Imp M Γ (fun x p s1 => wp M Γ enterFrame (fun _ p s1 => wp M Γ (k' x) Q NoE p s1) NoE p s1) Q (pure x) (enterFrame >>= r) := fun E p s h => by
  rw [Sem.wp_pure'] at h
  rw [Sem.wp_bind']
  exact Sem.wp_mono M Γ _ (fun _ p s h => k E p s h) (fun _ _ _ h => h.elim) p s h
theorem Imp.refl {t : Sem β} : Imp M Γ Q Q t t := fun E p s h => Sem.wp_mono M Γ _ (fun _ _ _ h => h) (fun _ _ _ h => h.elim) p s h
end
set_option maxRecDepth 100000
set_option maxHeartbeats 2000000
theorem bc_wp {M : Model} {Γ : Ctx} {name bind : Str} {body : List Stmt} {scope : Scope} {statics : List Str} {env : Env} {pos p : Pos} {s : Shared} {Q : Value → Pos → Shared → Prop} {E : Value → Pos → Shared → Prop}
    (hc1 : (scope.names.lookup ("__class__" : Str) == some NameKind.cell) = false) (hc2 : (scope.names.lookup ("__classdict__" : Str) == some NameKind.cell) = false)
    (h : wp M Γ (do
        let givenT ← newTuple [.type "object"]
        let nameV ← mkText name
        match ← getAttr? (.type "type") "__prepare__" with
        | none => unsupported "own"
        | some prep =>
          match ← call prep [nameV, givenT] [] with
          | .ref nsA =>
            notTheModulesDict "class:the-namespace-that-__prepare__-gave" nsA
            match ← specialOf (.ref nsA) "__getitem__" with
            | none => unsupported "own"
            | some _ =>
              let code ← classCode env pos pos.line name (qualnameIn env name bind) scope
              let builtins ← builtinsFor env.globals env.builtins
              let frame ← newBodyFrame code env.globals nsA builtins
              let cl ← closureFor scope env
              pure (nameV, givenT, Value.ref nsA, ({ scope, locals := nsA, globals := env.globals, qual := qualnameIn env name bind ++ ".", code, frame := some frame, builtins, cells := cl } : Env))
          | _ => unsupported "own") (fun x p s1 => wp M Γ enterFrame (fun _ p s1 => wp M Γ (clsMid name bind body statics env pos x) Q (fun _ _ _ => False) p s1) (fun _ _ _ => False) p s1) (fun _ _ _ => False) p s) :
    wp M Γ (buildClass name (qualnameIn env name bind) [.type "object"] [] body scope statics pos.line env pos none) Q E p s := by
  suffices k : Imp M Γ _ Q _ (buildClass name (qualnameIn env name bind) [.type "object"] [] body scope statics pos.line env pos none) from k E p s h
  clear h
  unfold buildClass
  refine Imp.bind fun givenT => ?_
  refine Imp.eqb (a := ([.type "object"], false)) (by kernel_rfl) ?_
  refine Imp.eqb typeOf_o ?_
  refine Imp.eqb isType_t ?_
  refine Imp.iteT rfl ?_
  refine Imp.eqb (a := .type "type") (by kernel_rfl) ?_
  refine Imp.bind fun nameV => ?_
  refine Imp.iteF Bool.false_ne_true ?_
  refine Imp.hold ?_
  refine Imp.bind fun pr => ?_
  cases pr with
  | none => exact Imp.own
  | some prep =>
    refine Imp.bind fun ns => ?_
    cases ns with
    | ref nsA =>
      refine Imp.bind fun _ => ?_
      refine Imp.bind fun sp => ?_
      cases sp with
      | none => exact Imp.own
      | some sp =>
        refine Imp.iteF Bool.false_ne_true ?_
        refine Imp.hold ?_
        refine Imp.iteF (by rw [hc1]; exact Bool.false_ne_true) ?_
        refine Imp.pureL ?_
        refine Imp.iteF (by rw [hc2]; exact Bool.false_ne_true) ?_
        refine Imp.pureL ?_
        refine Imp.bind fun code => ?_
        refine Imp.bind fun bi => ?_
        refine Imp.bind fun fr => ?_
        refine Imp.bind fun cl => ?_
        refine Imp.hold ?_
        refine Imp.enter ?_
        unfold clsMid
        refine Imp.onRaise ?_
        refine Imp.assoc (Imp.bind fun _ => ?_)
        refine Imp.assoc (Imp.bind fun _ => ?_)
        refine Imp.assoc (Imp.bind fun _ => ?_)
        refine Imp.assoc (Imp.bind fun _ => ?_)
        refine Imp.assoc (Imp.bind fun _ => ?_)
        refine Imp.assoc (Imp.bind fun _ => ?_)
        refine Imp.pureL ?_
        refine Imp.bind fun _ => ?_
        refine Imp.onRaise ?_
        refine Imp.assoc (Imp.bind fun _ => ?_)
        refine Imp.assoc (Imp.bind fun _ => ?_)
        refine Imp.assoc (Imp.bind fun _ => ?_)
        refine Imp.pureL ?_
        refine Imp.iteF Bool.false_ne_true ?_
        exact Imp.lastP fun _ => rfl
    | _ => exact Imp.own
theorem cls_exec {M : Model} {A : Around} {name bind : Str} {bases : List Expr} {body : List Stmt} {scope : Scope} {ts : Option Scope} {statics : List Str} {env : Env} {pos : Pos} {s : Shared} {Q : Flow → Shared → Prop} {E : Value → Shared → Prop}
    (hc1 : (scope.names.lookup ("__class__" : Str) == some NameKind.cell) = false) (hc2 : (scope.names.lookup ("__classdict__" : Str) == some NameKind.cell) = false) (hroom : A.depth < recursionLimit)
    (h : wpAny M A (clsPre name bind bases scope env pos) (fun x s1 => s1.heap.NoLimit ∧ wpAny M A (clsPost name bind body statics env pos x) Q (fun _ _ => False) s1) (fun _ _ => False) s) :
    wpAny M A (exec (.ClassDef name bases [] body [] [] scope ts bind statics pos) env) Q E s := by
  intro Γ p hΓ
  have h := h Γ p hΓ
  rw [arm_exec_ClassDef]
  unfold clsPre at h
  have e0 : evalAll (evalEach [] env) = pure [] := rfl
  simp only [Sem.wp_bind', Sem.wp_holding, e0, pure_bind] at h ⊢
  refine Sem.wp_mono M Γ _ (fun _ p s h => ?_) (fun _ _ _ h => h.elim) p s h
  refine Sem.wp_mono M Γ _ (fun _ p s h => ?_) (fun _ _ _ h => h.elim) p s h
  refine Sem.wp_mono M Γ _ (fun a p s h => ?_) (fun _ _ _ h => h.elim) p s h
  obtain ⟨ap, ak⟩ := a
  split at h
  · rename_i hq
    obtain ⟨rfl, rfl⟩ := hq
    rw [Sem.wp_bind'] at h
    refine Sem.wp_mono M Γ _ (fun _ p s h => ?_) (fun _ _ _ h => h.elim) p s h
    refine bc_wp hc1 hc2 ?_
    refine Sem.wp_mono M Γ _ (fun x p s h => ?_) (fun _ _ _ h => h) p s h
    refine Sem.wp_mono M Γ _ (fun _ p' s' e => ?_) (fun _ _ _ h => h) p s (wpAny_enterFrame (Q := fun _ s' => s' = s) (E := fun _ _ => False) h.1 hroom rfl Γ p hΓ)
    subst e
    have h := h.2 Γ p' hΓ
    unfold clsPost at h
    simp only [Sem.wp_bind'] at h
    refine Sem.wp_mono M Γ _ (fun c p s h => ?_) (fun _ _ _ h => h) p' s' h
    have e1 : decorate (([] : List Value).zip (List.map (fun (x : Expr) => x.pos) [])).reverse c = pure c := rfl
    rw [e1, Sem.wp_pure']
    exact Sem.wp_mono M Γ _ (fun _ p s h => Sem.wp_mono M Γ _ (fun _ p s h => Sem.wp_mono M Γ _ (fun _ p s h => h) (fun _ _ _ h => h.elim) p s h) (fun _ _ _ h => h.elim) p s h) (fun _ _ _ h => h.elim) p s h
  · exact h.elim
end Mine
end
section -- MO
namespace Mine
noncomputable def bindF : FuncData → Args → Sem (List (Str × Value)) := Fast.tw9782568553167038054
theorem bindF_eq : bindArgs = bindF := Fast.te9782568553167038054
noncomputable def envF : Scope → Addr → List (Str × Addr) → List (Str × Value) → Str → Option Addr → Value → Option Env → Addr → Sem Env := @Fast.tw11113344188204177931
theorem envF_eq : @newFunctionEnv = envF := Fast.te11113344188204177931
/-- a run's state at addresses that are not written: the new objects, their number, the tokens drawn, where the objects to be met lie, where they lay, what must be the same -/
structure OS where
  T : BT
  m : Nat
  i : Nat
  orc : List Nat
  tr : List Nat
  eqs : List (Nat × Nat)
noncomputable def idxOf : List (Addr × Obj) → Addr → Nat → Option Nat
  | [], _, _ => none
  | p :: l, a, j => match Nat.beq p.1 a with
    | true => some j
    | false => idxOf l a (j + 1)
noncomputable def tokOf (V : XV) (olds : List (Addr × Obj)) (a : Addr) : Nat := match V.kt.get a with
  | some _ => 0
  | none => match idxOf olds a 0 with
    | some j => 2 * j + 2
    | none => 2 * (a - V.n₁) + 1
/-- the object at a, by the oracle (lit: by the address itself) -/
noncomputable def peek (V : XV) (olds : List (Addr × Obj)) (lit : Bool) (a : Addr) (st : OS) : Option (Nat × Obj × OS) := match lit with
  | true => let j := tokOf V olds a
    match Nat.beq j 0 with
    | true => match V.kt.get a with
      | some o => some (j, o, { st with tr := j :: st.tr })
      | none => none
    | false => match Nat.beq (j % 2) 1 with
      | true => match st.T.get (j / 2) with
        | some o => some (j, o, { st with tr := j :: st.tr, eqs := (a, V.n₁ + j / 2) :: st.eqs })
        | none => none
      | false => match olds[j / 2 - 1]? with
        | some p => some (j, p.2, { st with tr := j :: st.tr, eqs := (a, p.1) :: st.eqs })
        | none => none
  | false => match st.orc with
    | [] => none
    | j :: orc => match Nat.beq j 0 with
      | true => match V.kt.get a with
        | some o => some (j, o, { st with orc := orc })
        | none => none
      | false => match Nat.beq (j % 2) 1 with
        | true => match st.T.get (j / 2) with
          | some o => some (j, o, { st with orc := orc, eqs := (a, V.n₁ + j / 2) :: st.eqs })
          | none => none
        | false => match olds[j / 2 - 1]? with
          | some p => some (j, p.2, { st with orc := orc, eqs := (a, p.1) :: st.eqs })
          | none => none
noncomputable abbrev RunO := ((α : Type) → Sem α → OS → Option (Except Value α × OS)) × (Code → OS → Option (Result × OS))
noncomputable def okc (c : Code) : Bool := match c with
  | .builtin id _ => !(decide (id = "claim.caller"))
  | _ => true
/-- a call of a def or of a lambda: its data and its address -/
noncomputable def fnOfC (V : XV) (olds : List (Addr × Obj)) (lit : Bool) (c : Code) (st : OS) : Option (Addr × FuncData × Args × OS) := match c with
  | .call f args => match f with
    | .ref a => match peek V olds lit a st with
      | some (_, o, st') => match o.data with
        | .func fd => some (a, fd, args, st')
        | _ => none
      | none => none
    | _ => none
  | _ => none
/-- the code's name is the def's -/
noncomputable def recOk (V : XV) (olds : List (Addr × Obj)) (lit : Bool) (fd : FuncData) (st : OS) : Option OS := match fd.code with
  | .ref c => match peek V olds lit c st with
    | some (_, o, st') => match o.data with
      | .fields vs => match vs[1]? with
        | some v => match v with
          | .str q _ => match decide (q = fd.qualname) with
            | true => some st'
            | false => none
          | _ => none
        | none => none
      | _ => none
    | none => none
  | _ => none
noncomputable def plainFn (fd : FuncData) : Bool := !fd.scope.isCoroutine && !fd.scope.isGenerator
noncomputable def nextF : Value → Sem (Option Value) := Fast.tw9404975358583537561
theorem nextF_eq : pyNext = nextF := Fast.te9404975358583537561
noncomputable def ownF : Expr → Value → Value → Sem Unit := Fast.tw1578499551869305889
theorem ownF_eq : letOwnedTupleGo = ownF := Fast.te1578499551869305889
noncomputable def assignF : Expr → Env → Value → Sem Unit := Fast.tw17772580674575903948
theorem assignF_eq : assign = assignF := Fast.te17772580674575903948
noncomputable def evalF : Expr → Env → Sem Value := Fast.tw14044960220447912780
theorem evalF_eq : eval = evalF := Fast.te14044960220447912780
/-- a comprehension's loop whose element is one of two signs, by whether two ints differ -/
structure IfC where
  target : Expr
  l : Expr
  r : Expr
  b1 : Nat
  b2 : Nat
  it : Value
  acc : Value
  env : Env
noncomputable def ifComp (c : Code) : Option IfC := match c with
  | .compLoop e d it acc env => match d with
    | 0 => match e with
      | .ListComp elt gens _ _ => match elt with
        | .IfExp test body orelse _ => match test with
          | .Compare l ops cs _ => match ops with
            | [op] => match op with
              | .NotEq => match cs with
                | [r] => match behindInMarks .NotEq r with
                  | false => match body with
                    | .Constant c1 _ _ => match c1 with
                      | .str s1 => match orelse with
                        | .Constant c2 _ _ => match c2 with
                          | .str s2 => match s1.cps.toList with
                            | [b1] => match s2.cps.toList with
                              | [b2] => match gens with
                                | [g] => match g with
                                  | ⟨target, _, ifs, a⟩ => match ifs with
                                    | [] => match decide (a = 0) with
                                      | true => some ⟨target, l, r, b1, b2, it, acc, env⟩
                                      | false => none
                                    | _ => none
                                | _ => none
                              | _ => none
                            | _ => none
                          | _ => none
                        | _ => none
                      | _ => none
                    | _ => none
                  | true => none
                | _ => none
              | _ => none
            | _ => none
          | _ => none
        | _ => none
      | _ => none
    | _ + 1 => none
  | _ => none
theorem ifComp_ok {c : Code} {x : IfC} (e : ifComp c = some x) : ∃ iter scope pos p p2 k1 q1 k2 q2, behindInMarks .NotEq x.r = false ∧
    c = .compLoop (.ListComp (.IfExp (.Compare x.l [.NotEq] [x.r] p2) (.Constant (.str ⟨#[x.b1]⟩) k1 q1) (.Constant (.str ⟨#[x.b2]⟩) k2 q2) p) [⟨x.target, iter, [], 0⟩] scope pos) 0 x.it x.acc x.env := by
  unfold ifComp at e
  repeat' (split at e)
  all_goals first
    | (cases e; done)
    | (rename_i h1 _ _ h2 _ _ _ _ _ _ _ hd
       cases e
       have hd := of_decide_eq_true hd
       subst hd
       have e1 := congrArg Str.mk (Array.ext' (h1.trans (rfl : _ = (#[_] : Array Nat).toList)))
       have e2 := congrArg Str.mk (Array.ext' (h2.trans (rfl : _ = (#[_] : Array Nat).toList)))
       have e1' : Str.mk #[_] = _ := e1.symm
       have e2' : Str.mk #[_] = _ := e2.symm
       dsimp only
       rw [e1', e2']
       exact ⟨_, _, _, _, _, _, _, _, _, by assumption, rfl⟩)
noncomputable def RO (V : XV) (olds : List (Addr × Obj)) (lit : Bool) : Nat → Nat → RunO
  | 0, _ => (fun _ _ _ => none, fun _ _ => none)
  | n + 1, dp =>
    (fun α t st => match t with
      | .pure a => some (.ok a, st)
      | .raise e => some (.error e, st)
      | .rule _ k => (RO V olds lit n dp).1 α (k ()) st
      | .at _ k => (RO V olds lit n dp).1 α (k ()) st
      | .point _ k => (RO V olds lit n dp).1 α (k ()) st
      | .ask k => (RO V olds lit n dp).1 α (k ⟨V.prog, V.w.params⟩) st
      | .load a _ k => match peek V olds lit a st with
        | some (_, o, st') => (RO V olds lit n dp).1 α (k o) st'
        | none => none
      | .alloc o k => match o.isFreed with
        | true => none
        | false => match (st.T.ins st.m o).get st.m with
          | some _ => (RO V olds lit n dp).1 α (k (V.n₁ + st.m)) { st with T := st.T.ins st.m o, m := st.m + 1 }
          | none => none
      | .update a _ f k => match peek V olds lit a st with
        | some (j, o, st') => match Nat.beq (j % 2) 1 with
          | true => match (f o).isFreed with
            | true => none
            | false => (RO V olds lit n dp).1 α (k ()) { st' with T := st'.T.set (j / 2) f }
          | false => none
        | none => none
      | .fresh k => (RO V olds lit n dp).1 α (k (V.t₀ + st.i)) { st with i := st.i + 1 }
      | .handled own k => match own with
        | false => (RO V olds lit n dp).1 α (k none) st
        | true => none
      | .call c hd _ _ k => match hd with
        | none => match (RO V olds lit n dp).2 c st with
          | some (r, st') => (RO V olds lit n dp).1 α (k r) st'
          | none => none
        | some _ => none
      | _ => none,
     fun c st => match ifComp c with
      | some x => match (RO V olds lit n dp).1 _ (nextF x.it) st with
        | some (.ok none, st1) => some (.ok .next, st1)
        | some (.ok (some v), st1) => match (RO V olds lit n dp).1 _ (ownF x.target x.it v) st1 with
          | some (.ok _, st2) => match (RO V olds lit n dp).1 _ (assignF x.target x.env v) st2 with
            | some (.ok _, st3) => match (RO V olds lit n dp).1 _ (evalF x.l x.env) st3 with
              | some (.ok (.int a _), st4) => match (RO V olds lit n dp).1 _ (evalF x.r x.env) st4 with
                | some (.ok (.int b _), st5) => match (RO V olds lit n dp).1 _ (call (.builtin "list.append") [x.acc, .str ⟨⟨[if a = b then x.b2 else x.b1]⟩⟩ (V.t₀ + st5.i)]) { st5 with i := st5.i + 1 } with
                  | some (.ok _, st6) => (RO V olds lit n dp).2 c st6
                  | _ => none
                | _ => none
              | _ => none
            | _ => none
          | _ => none
        | _ => none
      | none => match fnOfC V olds lit c st with
      | some (a, fd, args, st1) => match plainFn fd && Nat.ble 7 dp with
        | false => none
        | true => match recOk V olds lit fd st1 with
          | none => none
          | some st2 => match (RO V olds lit n dp).1 _ (bindF fd args) st2 with
            | some (.ok binds, st3) => match (RO V olds lit n dp).1 _ (envF fd.scope fd.globals fd.closure binds (fd.qualname ++ ".<locals>.") (some a) fd.code none fd.builtins) st3 with
              | some (.ok env, st4) => match fd.body with
                | .stmts b => (RO V olds lit n dp).2 (.func b env) st4
                | .expr e => (RO V olds lit n dp).2 (.expr e env) st4
              | _ => none
            | _ => none
      | none => match okc c with
       | false => none
       | true => match Nat.ble 7 dp with
        | false => none
        | true => match (RO V olds lit n (dp - 6)).1 PySem.Fin (den c) st with
          | some (.ok (.done f), st') => some (.ok f, st')
          | some (.ok (.again c'), st') => match c'.quiet with
            | true => (RO V olds lit n dp).2 c' st'
            | false => none
          | some (.error e, st') => some (.error e, st')
          | none => none)

noncomputable def EqOk (l : List (Nat × Nat)) : Prop := ∀ p ∈ l, p.1 = p.2
theorem EqOk.tail {p : Nat × Nat} {l : List (Nat × Nat)} (h : EqOk (p :: l)) : EqOk l := fun q hq => h q (.tail _ hq)
noncomputable def OldsIn (h : Heap) (l : List (Addr × Obj)) : Prop := ∀ p ∈ l, h.get? p.1 = some p.2
theorem peek_ok {V : XV} {olds : List (Addr × Obj)} {lit : Bool} {a : Addr} {st st' : OS} {j : Nat} {o : Obj} (e : peek V olds lit a st = some (j, o, st')) :
    (EqOk st'.eqs → EqOk st.eqs) ∧ st'.T = st.T ∧ st'.m = st.m ∧ st'.i = st.i ∧
    (EqOk st'.eqs → V.Ok → OldsIn V.h₀ olds → ∀ h, Rep V h st.T st.m [] → h.get? a = some o ∧ (Nat.beq (j % 2) 1 = true → a = V.n₁ + j / 2 ∧ st.T.get (j / 2) = some o)) := by
  have own : ∀ {o' : Obj}, st.T.get (j / 2) = some o' → ∀ (b : Nat), b = V.n₁ + j / 2 → ∀ h, Rep V h st.T st.m [] → h.get? b = some o' := by
    intro o' e1 b hb h D
    rw [hb]; exact (D.own _ _ e1).2
  have kt : ∀ {o' : Obj}, V.kt.get a = some o' → V.Ok → ∀ h, Rep V h st.T st.m [] → h.get? a = some o' := by
    intro o' e1 O h D
    have z := kt_at O.kt e1
    exact D.keep _ _ z rfl
  have od : ∀ {p : Addr × Obj} {i : Nat}, olds[i]? = some p → a = p.1 → OldsIn V.h₀ olds → ∀ h, Rep V h st.T st.m [] → h.get? a = some p.2 := by
    intro p i e1 hb H h D
    rw [hb]; exact D.keep _ _ (H p (List.mem_of_getElem? e1)) rfl
  unfold peek at e
  split at e
  · dsimp only at e
    split at e
    · rename_i hb
      split at e
      · rename_i e1
        cases e
        refine ⟨id, rfl, rfl, rfl, fun _ O _ h D => ⟨kt e1 O h D, fun q => ?_⟩⟩
        rw [Nat.eq_of_beq_eq_true hb] at q; cases q
      · cases e
    · split at e
      · split at e
        · rename_i e1
          cases e
          exact ⟨EqOk.tail, rfl, rfl, rfl, fun he _ _ h D => ⟨own e1 a (he _ (.head _)) h D, fun _ => ⟨he _ (.head _), e1⟩⟩⟩
        · cases e
      · rename_i hb
        split at e
        · rename_i e1
          cases e
          exact ⟨EqOk.tail, rfl, rfl, rfl, fun he _ H h D => ⟨od e1 (he _ (.head _)) H h D, fun q => by rw [hb] at q; cases q⟩⟩
        · cases e
  · split at e
    · cases e
    · split at e
      · rename_i hb
        split at e
        · rename_i e1
          cases e
          refine ⟨id, rfl, rfl, rfl, fun _ O _ h D => ⟨kt e1 O h D, fun q => ?_⟩⟩
          rw [Nat.eq_of_beq_eq_true hb] at q; cases q
        · cases e
      · split at e
        · split at e
          · rename_i e1
            cases e
            exact ⟨EqOk.tail, rfl, rfl, rfl, fun he _ _ h D => ⟨own e1 a (he _ (.head _)) h D, fun _ => ⟨he _ (.head _), e1⟩⟩⟩
          · cases e
        · rename_i hb
          split at e
          · rename_i e1
            cases e
            exact ⟨EqOk.tail, rfl, rfl, rfl, fun he _ H h D => ⟨od e1 (he _ (.head _)) H h D, fun q => by rw [hb] at q; cases q⟩⟩
          · cases e

theorem fnOfC_ok {V : XV} {olds : List (Addr × Obj)} {lit : Bool} {c : Code} {st st' : OS} {a : Addr} {fd : FuncData} {args : Args} (e : fnOfC V olds lit c st = some (a, fd, args, st')) :
    c = .call (.ref a) args ∧ ∃ j o, peek V olds lit a st = some (j, o, st') ∧ o.data = .func fd := by
  unfold fnOfC at e
  split at e
  · split at e
    · split at e
      · rename_i e1
        split at e
        · rename_i hd
          cases e
          exact ⟨rfl, _, _, e1, hd⟩
        · cases e
      · cases e
    · cases e
  · cases e
theorem recOk_ok {V : XV} {olds : List (Addr × Obj)} {lit : Bool} {fd : FuncData} {st st' : OS} (e : recOk V olds lit fd st = some st') :
    ∃ c j o vs t, fd.code = .ref c ∧ peek V olds lit c st = some (j, o, st') ∧ o.data = .fields vs ∧ vs[1]? = some (.str fd.qualname t) := by
  unfold recOk at e
  split at e
  · rename_i hc
    split at e
    · rename_i e1
      split at e
      · rename_i hd
        split at e
        · rename_i hv
          split at e
          · split at e
            · rename_i hq
              have hq := of_decide_eq_true hq
              subst hq
              cases e
              exact ⟨_, _, _, _, _, hc, e1, hd, hv⟩
            · cases e
          · cases e
        · cases e
      · cases e
    · cases e
  · cases e
theorem RO_eq (V : XV) (olds : List (Addr × Obj)) (lit : Bool) : ∀ (n dp : Nat), (∀ (α : Type) (t : Sem α) (st : OS) r st', (RO V olds lit n dp).1 α t st = some (r, st') → EqOk st'.eqs → EqOk st.eqs) ∧
    (∀ c st r st', (RO V olds lit n dp).2 c st = some (r, st') → EqOk st'.eqs → EqOk st.eqs)
  | 0, _ => ⟨fun _ _ _ _ _ e => (nomatch e), fun _ _ _ _ e => (nomatch e)⟩
  | n + 1, dp => by
    have ih := RO_eq V olds lit n dp
    have ih6 := RO_eq V olds lit n (dp - 6)
    refine ⟨fun α t st r st' e => ?_, fun c st r st' e => ?_⟩
    · cases t <;> simp only [RO] at e
      case pure => cases e; exact id
      case raise => cases e; exact id
      case rule => exact ih.1 _ _ _ _ _ e
      case «at» => exact ih.1 _ _ _ _ _ e
      case point => exact ih.1 _ _ _ _ _ e
      case ask => exact ih.1 _ _ _ _ _ e
      case load =>
        split at e
        · rename_i e1
          exact fun h => (peek_ok e1).1 (ih.1 _ _ _ _ _ e h)
        · cases e
      case alloc =>
        split at e
        · cases e
        · split at e
          · have z := ih.1 _ _ _ _ _ e; exact z
          · cases e
      case update =>
        split at e
        · rename_i e1
          split at e
          · split at e
            · cases e
            · have z := ih.1 _ _ _ _ _ e
              exact fun h => (peek_ok e1).1 (z h)
          · cases e
        · cases e
      case fresh => have z := ih.1 _ _ _ _ _ e; exact z
      case handled => split at e <;> first | exact ih.1 _ _ _ _ _ e | cases e
      case call =>
        split at e
        · split at e
          · rename_i e1
            exact fun h => ih.2 _ _ _ _ e1 (ih.1 _ _ _ _ _ e h)
          · cases e
        · cases e
      all_goals cases e
    · simp only [RO] at e
      split at e
      · split at e
        · rename_i e1
          cases e
          exact ih.1 _ _ _ _ _ e1
        · rename_i e1
          split at e
          · rename_i e2
            split at e
            · rename_i e3
              split at e
              · rename_i e4
                split at e
                · rename_i e5
                  split at e
                  · rename_i e6
                    have z6 := ih.1 _ _ _ _ _ e6
                    exact fun h => ih.1 _ _ _ _ _ e1 (ih.1 _ _ _ _ _ e2 (ih.1 _ _ _ _ _ e3 (ih.1 _ _ _ _ _ e4 (ih.1 _ _ _ _ _ e5 (z6 (ih.2 _ _ _ _ e h))))))
                  · cases e
                · cases e
              · cases e
            · cases e
          · cases e
        · cases e
      split at e
      · rename_i ef
        obtain ⟨_, _, _, ep, _⟩ := fnOfC_ok ef
        split at e
        · cases e
        · split at e
          · cases e
          · rename_i er
            obtain ⟨_, _, _, _, _, _, ep2, _⟩ := recOk_ok er
            split at e
            · rename_i e3
              split at e
              · rename_i e4
                have k := fun h => (peek_ok ep).1 ((peek_ok ep2).1 (ih.1 _ _ _ _ _ e3 (ih.1 _ _ _ _ _ e4 h)))
                split at e
                · exact fun h => k (ih.2 _ _ _ _ e h)
                · exact fun h => k (ih.2 _ _ _ _ e h)
              · cases e
            · cases e
      · split at e
        · cases e
        · split at e
          · cases e
          · split at e
            · rename_i e1
              cases e
              exact ih6.1 _ _ _ _ _ e1
            · rename_i e1
              split at e
              · exact fun h => ih6.1 _ _ _ _ _ e1 (ih.2 _ _ _ _ e h)
              · cases e
            · rename_i e1
              cases e
              exact ih6.1 _ _ _ _ _ e1
            · cases e
noncomputable abbrev shO (V : XV) (g : Array GenState) (h : Heap) (st : OS) : Shared := ⟨h, g, V.d, V.t₀ + st.i, V.os⟩
theorem frames_le (c : Code) : c.frames ≤ 3 := by
  unfold Code.frames
  split <;> first | decide | (split <;> decide)
theorem weight_le {c : Code} (h : okc c = true) : c.weight ≤ 6 := by
  have hf := frames_le c
  have hc : c.isCaller = false := by
    unfold Code.isCaller
    split
    · simp [okc] at h
    · rfl
  unfold Code.weight
  rw [hc]
  simp only [Bool.false_eq_true, if_false]
  (repeat' split) <;> omega
theorem fresh_str {prog : Program} {w : World} {A : Around} {env : Env} {c : Str} {Q : Value → Shared → Prop} {E : Value → Shared → Prop} {h : Heap} {g : Array GenState} {d : Drawn} {tk : Nat} {os : OsState}
    (x : Q (.str c tk) ⟨h, g, d, tk + 1, os⟩) : wpAny (model prog w) A (constValue env (.str c)) Q E ⟨h, g, d, tk, os⟩ :=
  x_fresh (k := fun t => Sem.pure (Value.str c t)) (wpAny_pure x)
theorem RO_sound {V : XV} (O : V.Ok) {olds : List (Addr × Obj)} (H : OldsIn V.h₀ olds) (hl : V.h₀.NoLimit) (lit : Bool) (g : Array GenState) : ∀ (n dp : Nat),
    (∀ (α : Type) (t : Sem α) (st : OS) r st', (RO V olds lit n dp).1 α t st = some (r, st') → ∀ h (A : Around) (Q : α → Shared → Prop) (E : Value → Shared → Prop), A.handled = none → A.depth + dp ≤ recursionLimit → Rep V h st.T st.m [] → EqOk st'.eqs →
      (∀ h', Rep V h' st'.T st'.m [] → after Q E r (shO V g h' st')) → wpAny (model V.prog V.w) A t Q E (shO V g h st)) ∧
    (∀ c st r st', (RO V olds lit n dp).2 c st = some (r, st') → ∀ h (A : Around) (P : Result → Shared → Prop), A.handled = none → A.depth + dp ≤ recursionLimit → Rep V h st.T st.m [] → EqOk st'.eqs →
      (∀ h', Rep V h' st'.T st'.m [] → P r (shO V g h' st')) → codeAny (model V.prog V.w) A c P (shO V g h st))
  | 0, _ => ⟨fun _ _ _ _ _ e => (nomatch e), fun _ _ _ _ e => (nomatch e)⟩
  | n + 1, dp => by
    have ih := RO_sound O H hl lit g n dp
    have ih6 := RO_sound O H hl lit g n (dp - 6)
    have eq := RO_eq V olds lit n dp
    refine ⟨fun α t st r st' e h A Q E hA hdp D ho k => ?_, fun c st r st' e h A P hA hdp D ho k => ?_⟩
    · cases t <;> simp only [RO] at e
      case pure => cases e; exact wpAny_pure (k h D)
      case raise => cases e; exact x_raise (k h D)
      case rule => exact x_rule (ih.1 _ _ _ _ _ e h A Q E hA hdp D ho k)
      case «at» => exact x_at (ih.1 _ _ _ _ _ e h A Q E hA hdp D ho k)
      case point => exact x_point (ih.1 _ _ _ _ _ e h A Q E hA hdp D ho k)
      case ask => exact x_ask (ih.1 _ _ _ _ _ e h A Q E hA hdp D ho k)
      case load =>
        split at e
        · rename_i st1 e1
          obtain ⟨p1, p2, p3, p4, p5⟩ := peek_ok e1
          have z := ih.1 _ _ _ _ _ e h A Q E hA hdp (by rw [p2, p3]; exact D) ho k
          have hi : shO V g h st1 = shO V g h st := by unfold shO; rw [p4]
          rw [hi] at z
          exact x_load (p5 (eq.1 _ _ _ _ _ e ho) O H h D).1 z
        · cases e
      case alloc o kk =>
        split at e
        · cases e
        · rename_i hf
          split at e
          · rename_i e1
            have D' := D.alloc O hf (by rw [e1]; rfl)
            refine wpAny_bind (m := alloc o) (f := kk) (wpAny_alloc ?_)
            have z := ih.1 _ _ _ _ _ e (h.push o) A Q E hA hdp D' ho k
            rw [← D.size] at z
            exact z
          · cases e
      case update a q f kk =>
        split at e
        · rename_i j o1 st1 e1
          obtain ⟨p1, p2, p3, p4, p5⟩ := peek_ok e1
          split at e
          · rename_i hb
            split at e
            · cases e
            · rename_i hf
              have he1 := eq.1 _ _ _ _ _ e ho
              obtain ⟨hz, hw⟩ := p5 he1 O H h D
              obtain ⟨ha, ht⟩ := hw hb
              have es : a - V.n₁ = j / 2 := by rw [ha]; exact Nat.add_sub_cancel_left ..
              have D' := D.update O (a := a) (f := f) (by rw [ha]; exact Nat.le_add_right ..) (by rw [es]; exact ht) hf
              rw [es] at D'
              have z := ih.1 _ _ _ _ _ e _ A Q E hA hdp (by rw [p2, p3]; exact D') ho k
              have hi : shO V g (h.update a f) { st1 with T := st1.T.set (j / 2) f } = shO V g (h.update a f) st := by unfold shO; rw [p4]
              rw [hi] at z
              exact wpAny_bind (m := updatePart a q f) (f := kk) (wpAny_updatePart hz z)
          · cases e
        · cases e
      case fresh => exact x_fresh (ih.1 _ _ _ _ _ e h A Q E hA hdp D ho k)
      case handled =>
        split at e
        · exact x_handled (by rw [hA]; exact ih.1 _ _ _ _ _ e h A Q E hA hdp D ho k)
        · cases e
      case call c hd gd l kk =>
        split at e
        · split at e
          · rename_i r1 st1 e1
            refine x_call ?_ (by intro h; cases h)
            have z := ih.2 _ _ _ _ e1 h A (fun r s' => wpAny (model V.prog V.w) A (kk r) Q E s') hA hdp D (eq.1 _ _ _ _ _ e ho) fun h' D' => ih.1 _ _ _ _ _ e h' A Q E hA hdp D' ho k
            exact z
          · cases e
        · cases e
      all_goals cases e
    · simp only [RO] at e
      split at e
      · rename_i x hx
        obtain ⟨iter, scope, pos, p, p2, k1, q1, k2, q2, hbm, rfl⟩ := ifComp_ok hx
        refine codeAny_of_tree ?_
        show wpAny _ A ((compTurn (.ListComp _ [⟨x.target, iter, [], 0⟩] scope pos) 0 x.it x.acc x.env).onRaise (fun y => do noteFrame y x.env; theTreesLotGoes y)) _ _ _
        refine wpAny_noted ?_
        rw [compTurn_list1]
        refine wpAny_bind (wpAny_standAt (wpAny_bind ?_))
        rw [nextF_eq]
        split at e
        · rename_i e1
          cases e
          exact ih.1 _ _ _ _ _ e1 h A _ _ hA hdp D ho fun h' D' => wpAny_pure (k h' D')
        · rename_i v st1 e1
          split at e
          · rename_i e2
            split at e
            · rename_i e3
              split at e
              · rename_i a ta st4 e4
                split at e
                · rename_i b tb st5 e5
                  split at e
                  · rename_i st6 e6
                    have z6 := eq.2 _ _ _ _ e ho
                    have z5 := eq.1 _ _ _ _ _ e6 z6
                    have z4 := eq.1 _ _ _ _ _ e5 z5
                    have z3 := eq.1 _ _ _ _ _ e4 z4
                    have z2 := eq.1 _ _ _ _ _ e3 z3
                    have z1 := eq.1 _ _ _ _ _ e2 z2
                    refine ih.1 _ _ _ _ _ e1 h A _ _ hA hdp D z1 fun h1 D1 => ?_
                    refine wpAny_bind ?_
                    rw [ownF_eq]
                    refine ih.1 _ _ _ _ _ e2 h1 A _ _ hA hdp D1 z2 fun h2 D2 => ?_
                    refine wpAny_bind ?_
                    rw [assignF_eq]
                    refine ih.1 _ _ _ _ _ e3 h2 A _ _ hA hdp D2 z3 fun h3 D3 => ?_
                    refine wpAny_bind (wpAny_bind (wpAny_IfExp (wpAny_isTrue_Compare1 ?_ hbm)))
                    rw [evalF_eq]
                    refine ih.1 _ _ _ _ _ e4 h3 A _ _ hA hdp D3 z4 fun h4 D4 => ?_
                    refine ih.1 _ _ _ _ _ e5 h4 A _ _ hA hdp D4 z5 fun h5 D5 => ?_
                    have last : ∀ cc : Nat, cc = (if a = b then x.b2 else x.b1) → wpAny (model V.prog V.w) A (call (.builtin "list.append") [x.acc, .str ⟨⟨[cc]⟩⟩ (V.t₀ + st5.i)] >>= fun _ => pure ())
                        (fun _ s' => wpAny (model V.prog V.w) A (again (.compLoop (.ListComp (.IfExp (.Compare x.l [.NotEq] [x.r] p2) (.Constant (.str ⟨#[x.b1]⟩) k1 q1) (.Constant (.str ⟨#[x.b2]⟩) k2 q2) p) [⟨x.target, iter, [], 0⟩] scope pos) 0 x.it x.acc x.env))
                          (fun fin s' => match fin with | .done f => P (.ok f) s' | .again c' => c'.quiet = true ∧ codeAny (model V.prog V.w) A c' P s') (notedBy (model V.prog V.w) A x.env fun e s' => P (.error e) s') s') (notedBy (model V.prog V.w) A x.env fun e s' => P (.error e) s') ⟨h5, g, V.d, V.t₀ + st5.i + 1, V.os⟩ := by
                      rintro cc rfl
                      refine wpAny_bind ?_
                      exact ih.1 _ _ _ _ _ e6 h5 A _ _ hA hdp D5 z6 fun h6 D6 => wpAny_pure (wpAny_pure ⟨rfl, ih.2 _ _ _ _ e h6 A P hA hdp D6 ho k⟩)
                    refine ne_int ?_
                    refine wpAny_truthy_bool ?_
                    split
                    · rename_i hne
                      rw [← evalF_eq, eval_Constant]
                      refine fresh_str ?_
                      refine last _ ?_
                      rw [if_neg (by simpa using hne)]
                    · rename_i hne
                      rw [← evalF_eq, eval_Constant]
                      refine fresh_str ?_
                      refine last _ ?_
                      rw [if_pos (by simpa using hne)]
                  · cases e
                · cases e
              · cases e
            · cases e
          · cases e
        · cases e
      split at e
      · rename_i a fd args st1 ef
        obtain ⟨rfl, j, o, ep, hd⟩ := fnOfC_ok ef
        split at e
        · cases e
        · rename_i hpl
          rw [Bool.and_eq_true] at hpl
          obtain ⟨hpl, hble⟩ := hpl
          have h7 : 7 ≤ dp := Nat.le_of_ble_eq_true hble
          unfold plainFn at hpl
          rw [Bool.and_eq_true] at hpl
          have hco : fd.scope.isCoroutine = false := by have := hpl.1; revert this; cases fd.scope.isCoroutine <;> simp
          have hgen : fd.scope.isGenerator = false := by have := hpl.2; revert this; cases fd.scope.isGenerator <;> simp
          split at e
          · cases e
          · rename_i st2 er
            obtain ⟨cc, j2, o2, vs, tq, hcd, ep2, hd2, hv⟩ := recOk_ok er
            obtain ⟨p1, p2, p3, p4, p5⟩ := peek_ok ep
            obtain ⟨q1, q2, q3, q4, q5⟩ := peek_ok ep2
            split at e
            · rename_i binds st3 e3
              split at e
              · rename_i env st4 e4
                have hroom : A.depth < recursionLimit := by omega
                have D1 : Rep V h st1.T st1.m [] := by rw [p2, p3]; exact D
                have D2 : Rep V h st2.T st2.m [] := by rw [q2, q3]; exact D1
                have hi : shO V g h st2 = shO V g h st := by unfold shO; rw [q4, p4]
                have main : ∀ (P' : Env → Shared → Prop), EqOk st4.eqs → (∀ h', Rep V h' st4.T st4.m [] → P' env (shO V g h' st4)) →
                    h.get? a = some o ∧ h.CodeRec fd.code fd.qualname ∧ wpAny (model V.prog V.w) A.in1 (bindArgs fd args) (fun binds s₁ => wpAny (model V.prog V.w) A.in1 (newFunctionEnv fd.scope fd.globals fd.closure binds (fd.qualname ++ ".<locals>.") (some a) fd.code none fd.builtins)
                      (fun env s₂ => P' env s₂) (fun e s' => P (.error e) s') s₁) (fun e s' => P (.error e) s') (shO V g h st) := by
                  intro P' he4 hP
                  have he3 := eq.1 _ _ _ _ _ e4 he4
                  have he2 := eq.1 _ _ _ _ _ e3 he3
                  refine ⟨(p5 (q1 he2) O H h D).1, ⟨cc, o2, vs, tq, hcd, (q5 he2 O H h D1).1, hd2, hv⟩, ?_⟩
                  have z := ih.1 _ _ _ _ _ e3 h A.in1 (fun binds s₁ => wpAny (model V.prog V.w) A.in1 (newFunctionEnv fd.scope fd.globals fd.closure binds (fd.qualname ++ ".<locals>.") (some a) fd.code none fd.builtins)
                      (fun env s₂ => P' env s₂) (fun e s' => P (.error e) s') s₁) (fun e s' => P (.error e) s') hA hdp D2 he3 (fun h' D' => ?_)
                  · rw [hi] at z
                    rw [bindF_eq]
                    exact z
                  · have z2 := ih.1 _ _ _ _ _ e4 h' A.in1 (fun env s₂ => P' env s₂) (fun e s' => P (.error e) s') hA hdp D' he4 (fun h'' D'' => hP h'' D'')
                    show wpAny _ _ (newFunctionEnv _ _ _ _ _ _ _ _ _) _ _ _
                    rw [envF_eq]
                    exact z2
                split at e
                · rename_i b hb
                  obtain ⟨m1, m2, m3⟩ := main (fun env s₂ => s₂.heap.NoLimit ∧ codeAny (model V.prog V.w) A (.func b env) P s₂) (eq.2 _ _ _ _ e ho) (fun h' D' => ⟨hl.keeps fun b' o' e' => D'.keep b' o' e' rfl, ih.2 _ _ _ _ e h' A P hA hdp D' ho k⟩)
                  exact codeAny_call_function hroom m1 hd hco hgen hb m2 m3
                · rename_i b hb
                  obtain ⟨m1, m2, m3⟩ := main (fun env s₂ => s₂.heap.NoLimit ∧ codeAny (model V.prog V.w) A (.expr b env) P s₂) (eq.2 _ _ _ _ e ho) (fun h' D' => ⟨hl.keeps fun b' o' e' => D'.keep b' o' e' rfl, ih.2 _ _ _ _ e h' A P hA hdp D' ho k⟩)
                  exact kla_callFunE hroom m1 hd hco hgen hb m2 m3
              · cases e
            · cases e
      · split at e
        · cases e
        · rename_i hokc
          split at e
          · cases e
          · rename_i hble
            have h7 : 7 ≤ dp := Nat.le_of_ble_eq_true hble
            have hw := weight_le hokc
            refine codeAny_of_tree ?_
            rw [show (model V.prog V.w).den c = den c from congrFun den_eq c]
            have hA' : (A.under c).handled = none := hA
            have hdp' : (A.under c).depth + (dp - 6) ≤ recursionLimit := by
              show A.depth + c.weight + (dp - 6) ≤ recursionLimit
              omega
            split at e
            · rename_i f st1 e1
              cases e
              exact ih6.1 _ _ _ _ _ e1 h _ _ _ hA' hdp' D ho fun h' D' => k h' D'
            · rename_i c' st1 e1
              split at e
              · rename_i hq
                refine ih6.1 _ _ _ _ _ e1 h _ _ _ hA' hdp' D (eq.2 _ _ _ _ e ho) fun h' D' => ?_
                exact ⟨hq, ih.2 _ _ _ _ e h' A P hA hdp D' ho k⟩
              · cases e
            · rename_i e0 st1 e1
              cases e
              exact ih6.1 _ _ _ _ _ e1 h _ _ _ hA' hdp' D ho fun h' D' => k h' D'
            · cases e
end Mine
end
section -- MK
namespace Mine
/-- the heap's known objects, as a tree -/
noncomputable def KT2 (P : Params) : KT := KT.of (K2 P)
noncomputable abbrev lst (vs : List Value) (n : Nat) : Obj := ⟨.type "list", none, .seq ⟨vs⟩ n, #[]⟩
noncomputable abbrev Prg : Program := PySem.Challenge.rw_mr0055_01.prog
/-- a place to run from: the heap h of n objects, of which kt's are known -/
noncomputable abbrev VO (kt : Params → KT) (w : World) (h : Heap) (n : Nat) (d : Drawn) (tk : Nat) (os : OsState) : XV :=
  ⟨Prg, w, h, n, kt w.params, [], {}, fun _ _ => True, d, tk, os⟩
noncomputable abbrev os0 (orc : List Nat) : OS := ⟨.nil, 0, 0, orc, [], []⟩
noncomputable def out1 {α : Type} (o : Option (α × OS)) : Option (α × List Nat) := match o with
  | some x => some (x.1, x.2.eqs.map Prod.fst)
  | none => none
noncomputable def outE {α : Type} (o : Option (α × OS)) : List Nat := match o with
  | some x => x.2.eqs.map Prod.snd
  | none => []
noncomputable def outT {α : Type} (o : Option (α × OS)) : List Nat := match o with
  | some x => x.2.tr.reverse
  | none => []
noncomputable def outB {α : Type} (o : Option (α × OS)) : BT := match o with
  | some x => x.2.T
  | none => .nil
noncomputable def outM {α : Type} (o : Option (α × OS)) : Nat := match o with
  | some x => x.2.m
  | none => 0
theorem eq_of_maps : ∀ {l : List (Nat × Nat)}, l.map Prod.fst = l.map Prod.snd → EqOk l
  | [], _ => fun _ h => (nomatch h)
  | p :: l, e => by
    simp only [List.map_cons, List.cons.injEq] at e
    intro q hq
    rcases List.mem_cons.mp hq with rfl | hq
    · exact e.1
    · exact eq_of_maps e.2 q hq
theorem out1_ok {α : Type} {o : Option (α × OS)} {v : α} (e : out1 o = some (v, outE o)) : ∃ st, o = some (v, st) ∧ EqOk st.eqs ∧ st.T = outB o ∧ st.m = outM o := by
  cases o with
  | none => cases e
  | some x =>
    obtain ⟨y, st⟩ := x
    simp only [out1, outE, Option.some.injEq, Prod.mk.injEq] at e
    obtain ⟨rfl, e⟩ := e
    exact ⟨st, rfl, eq_of_maps e, rfl, rfl⟩
section
variable {kt : Params → KT} {w : World} {h : Heap} {g : Array GenState} {d : Drawn} {tk n fuel : Nat} {os : OsState} {olds : List (Addr × Obj)} {orc : List Nat} {A : Around}
/-- a code by RO -/
theorem ro_code {c : Code} {r : Result} {P : Result → Shared → Prop} (hk : KT.Holds h 1 0 (kt w.params)) (hn : h.objs.size = n) (H : OldsIn h olds) (hl : h.NoLimit) (hA : A.handled = none) (hd : A.depth + 100 ≤ recursionLimit)
    (e : out1 ((RO (VO kt w h n d tk os) olds false fuel 100).2 c (os0 orc)) = some (r, outE ((RO (VO kt w h n d tk os) olds false fuel 100).2 c (os0 orc))))
    (k : ∀ h' tk', Ext h h' → Rep (VO kt w h n d tk os) h' (outB ((RO (VO kt w h n d tk os) olds false fuel 100).2 c (os0 orc))) (outM ((RO (VO kt w h n d tk os) olds false fuel 100).2 c (os0 orc))) [] → P r ⟨h', g, d, tk', os⟩) : codeAny (model Prg w) A c P ⟨h, g, d, tk, os⟩ := by
  obtain ⟨st, e, he, hT, hm⟩ := out1_ok e
  have O : (VO kt w h n d tk os).Ok := ⟨hn, hk, fun _ _ q => (nomatch q)⟩
  exact (RO_sound O H hl false g fuel 100).2 _ _ _ _ e h A P hA hd (Rep.start O) he fun h' D => k h' _ (fun b o q => D.keep b o q rfl) (hT ▸ hm ▸ D)
/-- a tree by RO -/
theorem ro_tree {α : Type} {t : Sem α} {r : α} {Q : α → Shared → Prop} {E : Value → Shared → Prop} (hk : KT.Holds h 1 0 (kt w.params)) (hn : h.objs.size = n) (H : OldsIn h olds) (hl : h.NoLimit) (hA : A.handled = none) (hd : A.depth + 100 ≤ recursionLimit)
    (e : out1 ((RO (VO kt w h n d tk os) olds false fuel 100).1 α t (os0 orc)) = some (.ok r, outE ((RO (VO kt w h n d tk os) olds false fuel 100).1 α t (os0 orc))))
    (k : ∀ h' tk', Ext h h' → Rep (VO kt w h n d tk os) h' (outB ((RO (VO kt w h n d tk os) olds false fuel 100).1 α t (os0 orc))) (outM ((RO (VO kt w h n d tk os) olds false fuel 100).1 α t (os0 orc))) [] → Q r ⟨h', g, d, tk', os⟩) : wpAny (model Prg w) A t Q E ⟨h, g, d, tk, os⟩ := by
  obtain ⟨st, e, he, hT, hm⟩ := out1_ok e
  have O : (VO kt w h n d tk os).Ok := ⟨hn, hk, fun _ _ q => (nomatch q)⟩
  exact (RO_sound O H hl false g fuel 100).1 _ _ _ _ _ e h A Q E hA hd (Rep.start O) he fun h' D => k h' _ (fun b o q => D.keep b o q rfl) (hT ▸ hm ▸ D)
end
structure KH (t : KT) (h : Heap) : Prop where
  k : KT.Holds h 1 0 t
theorem KH.keeps {t : KT} {h h' : Heap} (K : KH t h) (x : Ext h h') : KH t h' := ⟨KT.Holds.keeps x K.k⟩
/-- a run of a code that came through, sealed -/
structure Ran (kt : Params → KT) (w : World) (h : Heap) (n : Nat) (d : Drawn) (tk : Nat) (os : OsState) (olds : List (Addr × Obj)) (fuel : Nat) (orc : List Nat) (c : Code) (r : Result) : Prop where
  e : out1 ((RO (VO kt w h n d tk os) olds false fuel 100).2 c (os0 orc)) = some (r, outE ((RO (VO kt w h n d tk os) olds false fuel 100).2 c (os0 orc)))
theorem Ran.code {kt : Params → KT} {w : World} {h : Heap} {g : Array GenState} {d : Drawn} {tk fuel n : Nat} {os : OsState} {olds : List (Addr × Obj)} {orc : List Nat} {A : Around} {c : Code} {r : Result} (Z : Ran kt w h n d tk os olds fuel orc c r)
    {P : Result → Shared → Prop} (hn : h.objs.size = n) (hk : KH (kt w.params) h) (H : OldsIn h olds) (hl : h.NoLimit) (hA : A.handled = none) (hd : A.depth + 100 ≤ recursionLimit)
    (k : ∀ h' tk', Ext h h' → P r ⟨h', g, d, tk', os⟩) : codeAny (model Prg w) A c P ⟨h, g, d, tk, os⟩ :=
  ro_code hk.k hn H hl hA hd Z.e fun h' tk' X _ => k h' tk' X
/-- what the code that runs knows of the heap, sealed -/
structure Kn (w : World) (h : Heap) : Prop where
  kt : KH (KT2 w.params) h
  lim : h.NoLimit
theorem Kn.keeps {w : World} {h h' : Heap} (K : Kn w h) (x : Ext h h') : Kn w h' := Kn.mk (KH.keeps K.kt x) (K.lim.keeps x)
end Mine
end
section -- MText
namespace Mine
noncomputable def tokR (o : Option (Result × OS)) : Nat := match o with
  | some (.ok (.ret (.str _ t)), _) => t
  | some (.ok (.ret (.int _ t)), _) => t
  | _ => 0
/-- a point's figure at a place -/
noncomputable def fig (x : Int) (place : Nat) : Int := Int.fmod (Int.fdiv x (2 ^ place)) 2
noncomputable def sgn (x : Int) (place : Nat) (turn : Int) : Nat := if fig x place = turn then 48 else 49
noncomputable abbrev pin (w : World) (b c : Bool) : World := (w.withFollow "special-get-raises" b).withFollow "comprehension-iter-twice" c
theorem by4 {P : World → Prop} (h : ∀ b c w, P (pin w b c)) (w : World) : P w := by
  have := h (w.params.followText "special-get-raises") (w.params.followText "comprehension-iter-twice") w
  unfold pin at this
  rw [World.withFollow_self, World.withFollow_self] at this
  exact this
noncomputable abbrev tx2S (a b u v : Int) : Str := ⟨⟨[sgn a 3 u, sgn b 3 v, sgn a 2 u, sgn b 2 v, sgn a 1 u, sgn b 1 v, sgn a 0 u, sgn b 0 v]⟩⟩
noncomputable abbrev tx3S (a b c u v x : Int) : Str := ⟨⟨[sgn a 3 u, sgn b 3 v, sgn c 3 x, sgn a 2 u, sgn b 2 v, sgn c 2 x, sgn a 1 u, sgn b 1 v, sgn c 1 x, sgn a 0 u, sgn b 0 v, sgn c 0 x]⟩⟩
noncomputable abbrev tx2R (lit : Bool) (orc : List Nat) (D T n : Nat) (w : World) (h : Heap) (d : Drawn) (tk : Nat) (os : OsState) (a b p u v : Int) (ta tb tp tu tv : Tok) (n1 n2 : Nat) : Option (Result × OS) :=
  (RO (VO KT2 w h n d tk os) [(D, lst [.int a ta, .int b tb, .int p tp] n1), (T, lst [.int u tu, .int v tv] n2)] lit 4000 100).2 (.call (.ref 54) ⟨[.ref D, .ref T], []⟩) (os0 orc)
noncomputable abbrev tx3R (lit : Bool) (orc : List Nat) (D T n : Nat) (w : World) (h : Heap) (d : Drawn) (tk : Nat) (os : OsState) (a b c p u v x : Int) (ta tb tc tp tu tv tx : Tok) (n1 n2 : Nat) : Option (Result × OS) :=
  (RO (VO KT2 w h n d tk os) [(D, lst [.int a ta, .int b tb, .int c tc, .int p tp] n1), (T, lst [.int u tu, .int v tv, .int x tx] n2)] lit 4000 100).2 (.call (.ref 54) ⟨[.ref D, .ref T], []⟩) (os0 orc)
noncomputable abbrev tx2Q (D T n : Nat) (w : World) (h : Heap) (d : Drawn) (tk : Nat) (os : OsState) (a b p u v : Int) (ta tb tp tu tv : Tok) (n1 n2 : Nat) : Option (Result × OS) :=
  tx2R false (outT (tx2R true [] 66 67 70 w h d tk os a b p u v ta tb tp tu tv n1 n2)) D T n w h d tk os a b p u v ta tb tp tu tv n1 n2
noncomputable abbrev tx3Q (D T n : Nat) (w : World) (h : Heap) (d : Drawn) (tk : Nat) (os : OsState) (a b c p u v x : Int) (ta tb tc tp tu tv tx : Tok) (n1 n2 : Nat) : Option (Result × OS) :=
  tx3R false (outT (tx3R true [] 66 67 70 w h d tk os a b c p u v x ta tb tc tp tu tv tx n1 n2)) D T n w h d tk os a b c p u v x ta tb tc tp tu tv tx n1 n2
set_option maxRecDepth 100000
set_option linter.constructorNameAsVariable false
theorem tx2_a (w : World) (h : Heap) (d : Drawn) (tk : Nat) (os : OsState) (D T n : Nat) (a b p u v : Int) (ta tb tp tu tv : Tok) (n1 n2 : Nat) :
    Ran KT2 (pin w false false) h n d tk os [(D, lst [.int a ta, .int b tb, .int p tp] n1), (T, lst [.int u tu, .int v tv] n2)] 4000 (outT (tx2R true [] 66 67 70 (pin w false false) h d tk os a b p u v ta tb tp tu tv n1 n2)) (.call (.ref 54) ⟨[.ref D, .ref T], []⟩) (.ok (.ret (.str (tx2S a b u v) (tokR (tx2Q D T n (pin w false false) h d tk os a b p u v ta tb tp tu tv n1 n2))))) := ⟨by kernel_rfl⟩
theorem tx2_b (w : World) (h : Heap) (d : Drawn) (tk : Nat) (os : OsState) (D T n : Nat) (a b p u v : Int) (ta tb tp tu tv : Tok) (n1 n2 : Nat) :
    Ran KT2 (pin w false true) h n d tk os [(D, lst [.int a ta, .int b tb, .int p tp] n1), (T, lst [.int u tu, .int v tv] n2)] 4000 (outT (tx2R true [] 66 67 70 (pin w false true) h d tk os a b p u v ta tb tp tu tv n1 n2)) (.call (.ref 54) ⟨[.ref D, .ref T], []⟩) (.ok (.ret (.str (tx2S a b u v) (tokR (tx2Q D T n (pin w false true) h d tk os a b p u v ta tb tp tu tv n1 n2))))) := ⟨by kernel_rfl⟩
theorem tx2_c (w : World) (h : Heap) (d : Drawn) (tk : Nat) (os : OsState) (D T n : Nat) (a b p u v : Int) (ta tb tp tu tv : Tok) (n1 n2 : Nat) :
    Ran KT2 (pin w true false) h n d tk os [(D, lst [.int a ta, .int b tb, .int p tp] n1), (T, lst [.int u tu, .int v tv] n2)] 4000 (outT (tx2R true [] 66 67 70 (pin w true false) h d tk os a b p u v ta tb tp tu tv n1 n2)) (.call (.ref 54) ⟨[.ref D, .ref T], []⟩) (.ok (.ret (.str (tx2S a b u v) (tokR (tx2Q D T n (pin w true false) h d tk os a b p u v ta tb tp tu tv n1 n2))))) := ⟨by kernel_rfl⟩
theorem tx2_d (w : World) (h : Heap) (d : Drawn) (tk : Nat) (os : OsState) (D T n : Nat) (a b p u v : Int) (ta tb tp tu tv : Tok) (n1 n2 : Nat) :
    Ran KT2 (pin w true true) h n d tk os [(D, lst [.int a ta, .int b tb, .int p tp] n1), (T, lst [.int u tu, .int v tv] n2)] 4000 (outT (tx2R true [] 66 67 70 (pin w true true) h d tk os a b p u v ta tb tp tu tv n1 n2)) (.call (.ref 54) ⟨[.ref D, .ref T], []⟩) (.ok (.ret (.str (tx2S a b u v) (tokR (tx2Q D T n (pin w true true) h d tk os a b p u v ta tb tp tu tv n1 n2))))) := ⟨by kernel_rfl⟩
theorem tx2_all (b' c' : Bool) (w : World) (h : Heap) (d : Drawn) (tk : Nat) (os : OsState) (D T n : Nat) (a b p u v : Int) (ta tb tp tu tv : Tok) (n1 n2 : Nat) :
    Ran KT2 (pin w b' c') h n d tk os [(D, lst [.int a ta, .int b tb, .int p tp] n1), (T, lst [.int u tu, .int v tv] n2)] 4000 (outT (tx2R true [] 66 67 70 (pin w b' c') h d tk os a b p u v ta tb tp tu tv n1 n2)) (.call (.ref 54) ⟨[.ref D, .ref T], []⟩) (.ok (.ret (.str (tx2S a b u v) (tokR (tx2Q D T n (pin w b' c') h d tk os a b p u v ta tb tp tu tv n1 n2))))) := by
  cases b' <;> cases c'
  · exact tx2_a w h d tk os D T n a b p u v ta tb tp tu tv n1 n2
  · exact tx2_b w h d tk os D T n a b p u v ta tb tp tu tv n1 n2
  · exact tx2_c w h d tk os D T n a b p u v ta tb tp tu tv n1 n2
  · exact tx2_d w h d tk os D T n a b p u v ta tb tp tu tv n1 n2
theorem tx3_a (w : World) (h : Heap) (d : Drawn) (tk : Nat) (os : OsState) (D T n : Nat) (a b c p u v x : Int) (ta tb tc tp tu tv tx : Tok) (n1 n2 : Nat) :
    Ran KT2 (pin w false false) h n d tk os [(D, lst [.int a ta, .int b tb, .int c tc, .int p tp] n1), (T, lst [.int u tu, .int v tv, .int x tx] n2)] 4000 (outT (tx3R true [] 66 67 70 (pin w false false) h d tk os a b c p u v x ta tb tc tp tu tv tx n1 n2)) (.call (.ref 54) ⟨[.ref D, .ref T], []⟩) (.ok (.ret (.str (tx3S a b c u v x) (tokR (tx3Q D T n (pin w false false) h d tk os a b c p u v x ta tb tc tp tu tv tx n1 n2))))) := ⟨by kernel_rfl⟩
theorem tx3_b (w : World) (h : Heap) (d : Drawn) (tk : Nat) (os : OsState) (D T n : Nat) (a b c p u v x : Int) (ta tb tc tp tu tv tx : Tok) (n1 n2 : Nat) :
    Ran KT2 (pin w false true) h n d tk os [(D, lst [.int a ta, .int b tb, .int c tc, .int p tp] n1), (T, lst [.int u tu, .int v tv, .int x tx] n2)] 4000 (outT (tx3R true [] 66 67 70 (pin w false true) h d tk os a b c p u v x ta tb tc tp tu tv tx n1 n2)) (.call (.ref 54) ⟨[.ref D, .ref T], []⟩) (.ok (.ret (.str (tx3S a b c u v x) (tokR (tx3Q D T n (pin w false true) h d tk os a b c p u v x ta tb tc tp tu tv tx n1 n2))))) := ⟨by kernel_rfl⟩
theorem tx3_c (w : World) (h : Heap) (d : Drawn) (tk : Nat) (os : OsState) (D T n : Nat) (a b c p u v x : Int) (ta tb tc tp tu tv tx : Tok) (n1 n2 : Nat) :
    Ran KT2 (pin w true false) h n d tk os [(D, lst [.int a ta, .int b tb, .int c tc, .int p tp] n1), (T, lst [.int u tu, .int v tv, .int x tx] n2)] 4000 (outT (tx3R true [] 66 67 70 (pin w true false) h d tk os a b c p u v x ta tb tc tp tu tv tx n1 n2)) (.call (.ref 54) ⟨[.ref D, .ref T], []⟩) (.ok (.ret (.str (tx3S a b c u v x) (tokR (tx3Q D T n (pin w true false) h d tk os a b c p u v x ta tb tc tp tu tv tx n1 n2))))) := ⟨by kernel_rfl⟩
theorem tx3_d (w : World) (h : Heap) (d : Drawn) (tk : Nat) (os : OsState) (D T n : Nat) (a b c p u v x : Int) (ta tb tc tp tu tv tx : Tok) (n1 n2 : Nat) :
    Ran KT2 (pin w true true) h n d tk os [(D, lst [.int a ta, .int b tb, .int c tc, .int p tp] n1), (T, lst [.int u tu, .int v tv, .int x tx] n2)] 4000 (outT (tx3R true [] 66 67 70 (pin w true true) h d tk os a b c p u v x ta tb tc tp tu tv tx n1 n2)) (.call (.ref 54) ⟨[.ref D, .ref T], []⟩) (.ok (.ret (.str (tx3S a b c u v x) (tokR (tx3Q D T n (pin w true true) h d tk os a b c p u v x ta tb tc tp tu tv tx n1 n2))))) := ⟨by kernel_rfl⟩
theorem tx3_all (b' c' : Bool) (w : World) (h : Heap) (d : Drawn) (tk : Nat) (os : OsState) (D T n : Nat) (a b c p u v x : Int) (ta tb tc tp tu tv tx : Tok) (n1 n2 : Nat) :
    Ran KT2 (pin w b' c') h n d tk os [(D, lst [.int a ta, .int b tb, .int c tc, .int p tp] n1), (T, lst [.int u tu, .int v tv, .int x tx] n2)] 4000 (outT (tx3R true [] 66 67 70 (pin w b' c') h d tk os a b c p u v x ta tb tc tp tu tv tx n1 n2)) (.call (.ref 54) ⟨[.ref D, .ref T], []⟩) (.ok (.ret (.str (tx3S a b c u v x) (tokR (tx3Q D T n (pin w b' c') h d tk os a b c p u v x ta tb tc tp tu tv tx n1 n2))))) := by
  cases b' <;> cases c'
  · exact tx3_a w h d tk os D T n a b c p u v x ta tb tc tp tu tv tx n1 n2
  · exact tx3_b w h d tk os D T n a b c p u v x ta tb tc tp tu tv tx n1 n2
  · exact tx3_c w h d tk os D T n a b c p u v x ta tb tc tp tu tv tx n1 n2
  · exact tx3_d w h d tk os D T n a b c p u v x ta tb tc tp tu tv tx n1 n2
end Mine
end
section -- MPre
set_option linter.constructorNameAsVariable false
namespace Mine
noncomputable abbrev KT65 (P : Params) : KT := Mine.hd.ktop_167 P
noncomputable def objAt (P : Params) (a : Addr) : Obj := ((KT65 P).get a).getD default
noncomputable def fdAt (P : Params) (a : Addr) : FuncData := match (objAt P a).data with
  | .func fd => fd
  | _ => default
noncomputable def bodyAt (P : Params) (a : Addr) : List Stmt := match (fdAt P a).body with
  | .stmts b => b
  | _ => []
noncomputable def fldAt (P : Params) (a : Addr) : Array Value := match (objAt P a).data with
  | .fields vs => vs
  | _ => #[]
noncomputable def tokAt (P : Params) (a : Addr) : Tok := match (fldAt P a).toList with
  | _ :: Value.str _ t :: _ => t
  | _ => 0
/-- a def of the top: what a call of it wants to know -/
structure DefAt (P : Params) (f c : Addr) : Prop where
  obj : (KT65 P).get f = some (objAt P f)
  data : (objAt P f).data = .func (fdAt P f)
  co : (fdAt P f).scope.isCoroutine = false
  gen : (fdAt P f).scope.isGenerator = false
  body : (fdAt P f).body = .stmts (bodyAt P f)
  code : (fdAt P f).code = .ref c
  cobj : (KT65 P).get c = some (objAt P c)
  cdat : (objAt P c).data = .fields (fldAt P c)
  name : (fldAt P c)[1]? = some (.str (fdAt P f).qualname (tokAt P c))
theorem def_law (P : Params) : DefAt P 64 63 := ⟨by kernel_rfl, by kernel_rfl, by kernel_rfl, by kernel_rfl, by kernel_rfl, by kernel_rfl, by kernel_rfl, by kernel_rfl, by kernel_rfl⟩
theorem def_cmp (P : Params) : DefAt P 28 27 := ⟨by kernel_rfl, by kernel_rfl, by kernel_rfl, by kernel_rfl, by kernel_rfl, by kernel_rfl, by kernel_rfl, by kernel_rfl, by kernel_rfl⟩
noncomputable def execsF : List Stmt → Env → Sem Flow := Fast.tw12563942051412417395
theorem execsF_eq : execs = execsF := Fast.te12563942051412417395
/-- a call's entry, its first k statements -/
noncomputable def preRun (V : XV) (f : Addr) (args : Args) (k : Nat) (st : RS) : Option (Env × RS) :=
  match (R V true 5000).1 _ (bindF (fdAt V.w.params f) args) st with
  | some (.ok binds, st1) => match (R V true 5000).1 _ (envF (fdAt V.w.params f).scope (fdAt V.w.params f).globals (fdAt V.w.params f).closure binds ((fdAt V.w.params f).qualname ++ ".<locals>.") (some f) (fdAt V.w.params f).code none (fdAt V.w.params f).builtins) st1 with
    | some (.ok env, st2) => match (R V true 5000).1 _ (execsF ((bodyAt V.w.params f).take k) env) st2 with
      | some (.ok .next, st3) => some (env, st3)
      | _ => none
    | _ => none
  | _ => none
theorem execs_append (env : Env) (b : List Stmt) : ∀ (a : List Stmt), execs (a ++ b) env = (execs a env >>= fun f => match f with | .next => execs b env | f => pure f)
  | [] => rfl
  | st :: a => by
    rw [List.cons_append, execs_cons, execs_cons, bind_assoc]
    congr 1
    funext f
    cases f with
    | next => exact execs_append env b a
    | _ => rfl
theorem wpAny_execs_append {M : Model} {A : Around} {env : Env} {Q : Flow → Shared → Prop} {E : Value → Shared → Prop} {a b : List Stmt} {s : Shared}
    (h : wpAny M A (execs a env) (fun f s' => match f with | .next => wpAny M A (execs b env) Q E s' | f => Q f s') E s) : wpAny M A (execs (a ++ b) env) Q E s := by
  rw [execs_append]
  refine wpAny_bind (wpAny_mono h (fun f s' h' => ?_) fun _ _ h' => h')
  cases f <;> first | exact h' | exact wpAny_pure h'
theorem rep_lim {V : XV} {h : Heap} {T : BT} {m : Nat} {ch : Ch} (hl : V.h₀.NoLimit) (D : Rep V h T m ch) : h.NoLimit := by
  obtain ⟨mc, ⟨o, es, ep, ho, hd, r⟩, hn⟩ := hl
  cases q : chLook ch cStatics with
  | none => exact ⟨mc, ⟨o, es, ep, D.keep _ _ ho q, hd, r⟩, hn⟩
  | some vs =>
    obtain ⟨_, c, ps, more, ht, _⟩ := D.ch _ _ q
    have e := ho.symm.trans ht.2
    cases e
    cases hd
theorem preRun_sound {V : XV} (O : V.Ok) {g : Array GenState} {f c : Addr} {args : Args} {k : Nat} {env : Env} {st st' : RS} {h : Heap} {A : Around} {P : Result → Shared → Prop}
    (hf : h.get? f = some (objAt V.w.params f)) (hc : h.get? c = some (objAt V.w.params c)) (hlim : V.h₀.NoLimit)
    (F : DefAt V.w.params f c) (e : preRun V f args k st = some (env, st')) (hA : A.handled = none) (hroom : A.depth < recursionLimit) (D : Rep V h st.T st.m st.ch) (ho : ObOk st'.ob)
    (H : ∀ h', Rep V h' st'.T st'.m st'.ch → wpAny (model V.prog V.w) (A.deeper env) (execs ((bodyAt V.w.params f).drop k) env) (fun f s' => P (.ok (.ret (match f with | .ret v => v | _ => .none))) s') (fun _ _ => False) (sh V g h' st')) :
    codeAny (model V.prog V.w) A (.call (.ref f) args) P (sh V g h st) := by
  unfold preRun at e
  split at e
  · rename_i binds st1 e1
    split at e
    · rename_i env' st2 e2
      split at e
      · rename_i st3 e3
        cases e
        have o2 := ((R_ob V 5000 true).1 _ _ _ _ _ e3).1 ho
        have o1 := ((R_ob V 5000 true).1 _ _ _ _ _ e2).1 o2
        refine codeAny_call_function hroom hf F.data F.co F.gen F.body ⟨c, _, _, _, F.code, hc, F.cdat, F.name⟩ ?_
        rw [bindF_eq]
        refine (R_sound O g 5000 true).1 _ _ _ _ _ e1 h A.in1 _ _ hA D o1 fun h1 D1 => ?_
        show wpAny _ _ (newFunctionEnv _ _ _ _ _ _ _ _ _) _ _ _
        rw [envF_eq]
        refine (R_sound O g 5000 true).1 _ _ _ _ _ e2 h1 A.in1 _ _ hA D1 o2 fun h2 D2 => ⟨rep_lim hlim D2, codeAny_func ?_⟩
        rw [← List.take_append_drop k (bodyAt V.w.params f)]
        refine wpAny_execs_append ?_
        rw [execsF_eq]
        refine (R_sound O g 5000 true).1 _ _ _ _ _ e3 h2 (A.deeper env) _ _ hA D2 ho fun h3 D3 => ?_
        have z := H h3 D3
        rw [execsF_eq] at z
        exact wpAny_mono z (fun _ _ q => q) (fun _ _ q => q.elim)
      · cases e
    · cases e
  · cases e
end Mine
end
section -- MPreB
set_option linter.constructorNameAsVariable false
namespace Mine
/-- the place where law is called -/
noncomputable abbrev VL (w : World) (h : Heap) (d : Drawn) (tk : Nat) (os : OsState) (vs : List Value) : XV :=
  ⟨Prg, w, h, 66, (KT65 w.params).put 40 65 (lst vs 0), [(61, #[]), (23, #[])], {}, fun _ _ => True, d, tk, os⟩
noncomputable abbrev envL (P : Params) : Env :=
  { scope := (fdAt P 64).scope, locals := 66, globals := 3, cells := [(Str.ofString "turned", 71), (Str.ofString "texts", 70), (Str.ofString "row", 69), (Str.ofString "axes", 68), (Str.ofString "head", 67)], qual := (fdAt P 64).qualname ++ ".<locals>.", func := some 64, code := .ref 63, frame := some 66, builtins := 0 }
/-- a coordinate -/
noncomputable def crd (x : Int) (k : Nat) : Int := Int.fmod (Int.fdiv x (16 ^ k)) 16
noncomputable abbrev pt2 (tk j : Nat) (x : Int) : Obj := lst [.int (crd x 0) (tk + (43 + 18 * j)), .int (crd x 1) (tk + (50 + 18 * j)), .int j (tk + (33 + 18 * j))] 0
noncomputable abbrev pt3 (tk j : Nat) (x : Int) : Obj := lst [.int (crd x 0) (tk + (50 + 25 * j)), .int (crd x 1) (tk + (57 + 25 * j)), .int (crd x 2) (tk + (64 + 25 * j)), .int j (tk + (40 + 25 * j))] 0
noncomputable abbrev tu2 (tk : Nat) (x : Int) : Obj := lst [.int (fig x 1) (tk + 17), .int (fig x 2) (tk + 24)] 2
noncomputable abbrev tu3 (tk : Nat) (x : Int) : Obj := lst [.int (fig x 1) (tk + 17), .int (fig x 2) (tk + 24), .int (fig x 3) (tk + 31)] 3
noncomputable abbrev celO (v : Value) : Obj := ⟨.type "cell", none, .cell (some v), #[]⟩
noncomputable abbrev celN : Obj := ⟨.type "cell", none, .cell none, #[]⟩
noncomputable def strKeysB : List DictEntry → Bool
  | [] => true
  | e :: l => match e.key with
    | .str _ _ => strKeysB l
    | _ => false
noncomputable def frameB (o : Option Obj) : Option (Option Value) := match o with
  | some ⟨_, _, .dict es _, _⟩ => match strKeysB es.toList with
    | true => some (nsFind es (Str.ofString "points"))
    | false => none
  | _ => none
/-- what is asked of a state behind `points` -/
noncomputable def preOut (x : Option (Env × RS)) (ix : List Nat) : Option (Env × Nat × Ch × List (Int × Int) × List (Option Obj) × Option (Option Value)) := match x with
  | some (env, st) => some (env, st.m, st.ch, st.ob, ix.map st.T.get, frameB (st.T.get 0))
  | none => none
noncomputable def idxs (n : Nat) : List Nat := [1, 2, 3, 4, 5, 10, 20] ++ (List.range n).map (fun j => 34 + 12 * j)
noncomputable def refs (n : Nat) : List Value := (List.range n).map (fun j => .ref (100 + 12 * j))
noncomputable abbrev rs0 (q : List (Nat × Int)) : RS := ⟨.nil, 0, 0, [], q, []⟩
noncomputable def obA (x : Int) (a : Int) : Int × Int := (2 + Int.fmod x 2, a)
noncomputable def obS (n : Nat) : Int × Int := (((min n sizeLine : Nat) : Int), (n : Int))
noncomputable def ptO (ax tk j : Nat) (x : Int) : Obj := match ax with
  | 2 => pt2 tk j x
  | _ => pt3 tk j x
noncomputable def tuO (ax tk : Nat) (x : Int) : Obj := match ax with
  | 2 => tu2 tk x
  | _ => tu3 tk x
noncomputable def preObjs (ax tk : Nat) (hv : Value) (hx : Int) (xs : List Int) : List (Option Obj) :=
  [some (celO hv), some (celO (.int (ax : Int) (tk + 6))), some celN, some celN, some (celO (.ref 76)), some (tuO ax tk hx), some (lst (refs xs.length) xs.length)] ++ (List.range xs.length).map (fun j => some (ptO ax tk j (xs.getD j 0)))
/-- law's run up to `points` came through, sealed -/
structure PreRan (w : World) (h : Heap) (d : Drawn) (tk : Nat) (os : OsState) (vs : List Value) (ax : Nat) (hv : Value) (hx : Int) (xs : List Int) (ob : List (Int × Int)) : Prop where
  e : preOut (preRun (VL w h d tk os vs) 64 ⟨[.ref 65], []⟩ 5 (rs0 [(7, (ax : Int))])) (idxs xs.length) = some (envL w.params, 25 + 12 * xs.length, [], ob, preObjs ax tk hv hx xs, some (some (.ref 86)))
noncomputable abbrev pin1 (w : World) (b : Bool) : World := w.withFollow "special-get-raises" b
end Mine
end
section -- MCk
set_option linter.constructorNameAsVariable false
namespace Mine
/-- a class statement's parts -/
structure ClsP where
  name : Str
  bases : List Expr
  body : List Stmt
  scope : Scope
  ts : Option Scope
  bind : Str
  statics : List Str
  pos : Pos
noncomputable def clsP : List Stmt → ClsP
  | .ClassDef name bases _ body _ _ scope ts bind statics pos :: _ => ⟨name, bases, body, scope, ts, bind, statics, pos⟩
  | _ => ⟨Str.ofString "", [], [], default, none, Str.ofString "", [], ⟨0, 0, 0, 0⟩⟩
noncomputable def ckP (P : Params) : ClsP := clsP (bodyAt P 28)
theorem ck_body (P : Params) : bodyAt P 28 = .ClassDef (ckP P).name (ckP P).bases [] (ckP P).body [] [] (ckP P).scope (ckP P).ts (ckP P).bind (ckP P).statics (ckP P).pos :: (bodyAt P 28).drop 1 := by kernel_rfl
theorem ck_c1 (P : Params) : ((ckP P).scope.names.lookup ("__class__" : Str) == some NameKind.cell) = false := by kernel_rfl
theorem ck_c2 (P : Params) : ((ckP P).scope.names.lookup ("__classdict__" : Str) == some NameKind.cell) = false := by kernel_rfl
/-- a call of cmp_to_key: its class -/
noncomputable def ckRun (V : XV) (arg : Value) (st : RS) : Option (Env × Value × RS × RS) :=
  match preRun V 28 ⟨[arg], []⟩ 0 st with
  | some (env, st2) => match (R V true 5000).1 _ (clsPre (ckP V.w.params).name (ckP V.w.params).bind (ckP V.w.params).bases (ckP V.w.params).scope env (ckP V.w.params).pos) st2 with
    | some (.ok x, st3) => match (R V true 5000).1 _ (clsPost (ckP V.w.params).name (ckP V.w.params).bind (ckP V.w.params).body (ckP V.w.params).statics env (ckP V.w.params).pos x) st3 with
      | some (.ok .next, st4) => match (R V true 5000).1 _ (execsF ((bodyAt V.w.params 28).drop 1) env) st4 with
        | some (.ok (.ret v), st5) => some (env, v, st2, st5)
        | _ => none
      | _ => none
    | _ => none
  | none => none
theorem ckRun_sound {V : XV} (O : V.Ok) {g : Array GenState} {arg : Value} {env : Env} {v : Value} {st st2 st' : RS} {h : Heap} {A : Around} {P : Result → Shared → Prop}
    (hf : h.get? 28 = some (objAt V.w.params 28)) (hc : h.get? 27 = some (objAt V.w.params 27)) (hlim : V.h₀.NoLimit)
    (e : ckRun V arg st = some (env, v, st2, st')) (hA : A.handled = none) (hroom : A.depth + 5 < recursionLimit) (D : Rep V h st.T st.m st.ch) (ho : ObOk st'.ob)
    (H : ∀ h', Rep V h' st'.T st'.m st'.ch → P (.ok (.ret v)) (sh V g h' st')) :
    codeAny (model V.prog V.w) A (.call (.ref 28) ⟨[arg], []⟩) P (sh V g h st) := by
  unfold ckRun at e
  split at e
  · rename_i env' st2' e2
    split at e
    · rename_i x st3 e3
      split at e
      · rename_i st4 e4
        split at e
        · rename_i v' st5 e5
          cases e
          have o4 := ((R_ob V 5000 true).1 _ _ _ _ _ e5).1 ho
          have o3 := ((R_ob V 5000 true).1 _ _ _ _ _ e4).1 o4
          have o2 := ((R_ob V 5000 true).1 _ _ _ _ _ e3).1 o3
          refine preRun_sound O hf hc hlim (def_cmp V.w.params) e2 hA (by omega) D o2 fun h2 D2 => ?_
          rw [List.drop_zero, ck_body]
          refine wpAny_execs_cons (cls_exec (ck_c1 _) (ck_c2 _) (by show A.depth + 1 < recursionLimit; omega) ?_)
          refine (R_sound O g 5000 true).1 _ _ _ _ _ e3 h2 (A.deeper env) _ _ hA D2 o3 fun h3 D3 => ⟨rep_lim hlim D3, ?_⟩
          refine (R_sound O g 5000 true).1 _ _ _ _ _ e4 h3 (A.deeper env) _ _ hA D3 o4 fun h4 D4 => ?_
          show wpAny _ _ (execs ((bodyAt V.w.params 28).drop 1) env) _ _ _
          rw [execsF_eq]
          exact (R_sound O g 5000 true).1 _ _ _ _ _ e5 h4 (A.deeper env) _ _ hA D4 ho fun h5 D5 => H h5 D5
        · cases e
      · cases e
    · cases e
  · cases e
noncomputable def lamOf : Option Stmt → Expr
  | some (.Assign _ (.Call _ _ [⟨_, .Call _ [e] _ _, _⟩] _) _) => e
  | _ => .Constant .none 0 ⟨0, 0, 0, 0⟩
noncomputable def lamE (P : Params) : Expr := lamOf ((bodyAt P 64)[5]?)
/-- the place behind `points`: a heap of N objects -/
noncomputable abbrev V6 (w : World) (h : Heap) (N : Nat) (d : Drawn) (tk : Nat) (os : OsState) : XV :=
  ⟨Prg, w, h, N, KT65 w.params, [(61, #[]), (23, #[])], {}, fun _ _ => True, d, tk, os⟩
/-- the lambda, the class -/
noncomputable def ck6 (V : XV) : Option (Value × Value × RS × RS) :=
  match (R V true 5000).1 _ (evalF (lamE V.w.params) (envL V.w.params)) (rs0 []) with
  | some (.ok l, st1) => match ckRun V l st1 with
    | some (_, v, _, st5) => some (l, v, st1, st5)
    | none => none
  | _ => none
end Mine
end
section -- MC6
set_option maxRecDepth 100000
set_option linter.constructorNameAsVariable false
namespace Mine
structure FnP where
  name : Str
  params : Arguments
  body : List Stmt
  scope : Scope
noncomputable def fnP : Option Stmt → FnP
  | some (.FunctionDef name ps body _ _ _ scope _ _ _) => ⟨name, ps, body, scope⟩
  | _ => ⟨Str.ofString "", default, [], default⟩
noncomputable abbrev fnI (P : Params) : FnP := fnP ((ckP P).body[2]?)
noncomputable abbrev fnL (P : Params) : FnP := fnP ((ckP P).body[3]?)
noncomputable def lamP : Expr → Arguments × Expr × Scope
  | .Lambda a b s _ => (a, b, s)
  | e => (default, e, default)
noncomputable abbrev lamQ (P : Params) : Arguments × Expr × Scope := lamP (lamE P)
noncomputable abbrev fnO (d : FuncData) : Obj := ⟨.type "function", none, .func d, #[]⟩
noncomputable abbrev I0 (i : Int) : Value := .int i 0
noncomputable abbrev S' (s : String) (t : Tok) : Value := .str (Str.ofString s) t
/-- the lambda -/
noncomputable abbrev oLam (P : Params) (N : Nat) : Obj := fnO ⟨Str.ofString "<lambda>", Str.ofString "law.<locals>.<lambda>", (lamQ P).1, .expr (lamQ P).2.1, (lamQ P).2.2, 3, [(Str.ofString "turned", 71)], .none, .none, .none, S' "law_mr0055_01" 220, none, .ref (N + 6), .ref N, 0⟩
noncomputable abbrev oCode (nm qn : String) (a ln t b : Nat) : Obj := ⟨.type "code", none, .fields #[S' nm t, S' qn (t + 1), S' "/claim/cut.py" (t + 2), I0 (ln : Nat), I0 2, I0 0, I0 0, I0 19, .ref a, .bool true, I0 181, .ref (a + 1), .none, .ref (a + 2), .ref (a + 3), .ref (a + 4), I0 ((t + b : Nat)), I0 (ln : Nat), S' "/claim/cut.py" (t + b + 1)], #[]⟩
noncomputable abbrev oLamC (tk N : Nat) : Obj := oCode "<lambda>" "law.<locals>.<lambda>" (N + 1) 65 tk 6
noncomputable abbrev oCel (N : Nat) : Obj := celO (.ref (N + 7))
noncomputable abbrev oIni (P : Params) (N : Nat) : Obj := fnO ⟨Str.ofString "__init__", Str.ofString "cmp_to_key.<locals>.K.__init__", (fnI P).params, .stmts (fnI P).body, (fnI P).scope, 3, [], .none, .none, .none, S' "law_mr0055_01" 220, none, .ref (N + 23), .none, 0⟩
noncomputable abbrev oIniC (tk N : Nat) : Obj := oCode "__init__" "cmp_to_key.<locals>.K.__init__" (N + 18) 11 (tk + 25) 5
noncomputable abbrev oLt (P : Params) (N : Nat) : Obj := fnO ⟨Str.ofString "__lt__", Str.ofString "cmp_to_key.<locals>.K.__lt__", (fnL P).params, .stmts (fnL P).body, (fnL P).scope, 3, [(Str.ofString "mycmp", N + 9)], .none, .none, .none, S' "law_mr0055_01" 220, none, .ref (N + 31), .ref (N + 25), 0⟩
noncomputable abbrev oLtC (tk N : Nat) : Obj := oCode "__lt__" "cmp_to_key.<locals>.K.__lt__" (N + 26) 14 (tk + 33) 6
noncomputable abbrev en (P : Params) (s : String) (t : Tok) (v : Value) : DictEntry := ⟨reduceHash (P.strHash (Str.ofString s).cps), S' s t, v⟩
noncomputable abbrev oNs (P : Params) (tk N : Nat) : Obj := ⟨.type "dict", none, .dict #[en P "__module__" (tk + 16) (S' "cpy313.functools" (tk + 21)), en P "__firstlineno__" (tk + 20) (.int 7 (tk + 19)), en P "__slots__" (tk + 24) (.ref (N + 17)),
  en P "__init__" (tk + 32) (.ref (N + 24)), en P "__lt__" (tk + 41) (.ref (N + 32)), en P "__gt__" (tk + 50) (.ref (N + 40)), en P "__eq__" (tk + 59) (.ref (N + 48)), en P "__le__" (tk + 68) (.ref (N + 56)), en P "__ge__" (tk + 77) (.ref (N + 64)),
  en P "__hash__" (tk + 78) .none, en P "__static_attributes__" (tk + 80) (.ref (N + 65)), en P "obj" (tk + 82) (.ref (N + 69)), en P "__doc__" (tk + 83) .none] 3, #[]⟩
noncomputable abbrev oCls (tk N : Nat) : Obj := ⟨.type "type", none, .cls ⟨Str.ofString "K", [.type "object"], [.ref (N + 68), .type "object"], N + 67, Str.ofString "cmp_to_key.<locals>.K", false, [Str.ofString "obj"], [], false, none, false⟩,
  #[some (.ref (N + 10)), none, some (S' "K" (tk + 8)), some (S' "cmp_to_key.<locals>.K" (tk + 17)), some (.builtin "object.__new__"), some (.bool false)]⟩
noncomputable abbrev oMem (tk N : Nat) : Obj := ⟨.type "member_descriptor", none, .fields #[S' "obj" (tk + 81), .ref (N + 68), .builtin "proto.slot", .builtin "proto.slot#set", I0 0], #[]⟩
noncomputable def ckIx : List Nat := [6, 7, 9, 23, 24, 31, 32, 67, 68, 69]
noncomputable def ckObjs (P : Params) (tk N : Nat) : List Obj := [oLamC tk N, oLam P N, oCel N, oIniC tk N, oIni P N, oLtC tk N, oLt P N, oNs P tk N, oCls tk N, oMem tk N]
noncomputable def ckOut (x : Option (Value × Value × RS × RS)) : Option (Value × Value × Nat × Ch × List (Int × Int) × List (Option Obj)) := match x with
  | some (l, v, _, st) => some (l, v, st.m, st.ch, st.ob, ckIx.map st.T.get)
  | none => none
noncomputable abbrev ckCh (N : Nat) : Ch := [(61, #[I0 65, I0 40, .ref (N + 6)]), (23, #[I0 7, I0 4, .ref (N + 15)])]
/-- the class's making came through, sealed -/
structure CkRan (w : World) (h : Heap) (N : Nat) (d : Drawn) (tk : Nat) (os : OsState) : Prop where
  e : ckOut (ck6 (V6 w h N d tk os)) = some (.ref (N + 7), .ref (N + 68), 72, ckCh N, [], (ckObjs w.params tk N).map some)
end Mine
end
section -- MKey
set_option maxRecDepth 100000
set_option linter.constructorNameAsVariable false
namespace Mine
/-- the known objects, the class's among them -/
noncomputable def KTC (N tk0 : Nat) (P : Params) : KT := (List.zip ckIx (ckObjs P tk0 N)).foldl (fun t p => t.put 40 (N + p.1) p.2) (KT2 P)
noncomputable abbrev inst (N n a : Nat) : Obj := ⟨.ref (N + 68), some n, .plain, #[some (.ref a)]⟩
noncomputable def orcK : List Nat := [0, 0, 0, 0, 0, 0, 0, 0, 0, 0, 0, 0, 0, 0, 0, 0, 0, 0, 0, 0, 0, 0, 0, 0, 0, 0, 3, 0, 3, 0, 0, 0, 0, 0, 0, 5, 5, 5, 5, 5, 5, 3, 0, 0, 0, 3, 0, 3, 0, 3, 0, 0, 0, 0, 0, 0, 0, 0, 3, 0, 0, 0, 0, 0, 3, 0, 3]
noncomputable abbrev kR (N tk0 a n : Nat) (w : World) (h : Heap) (d : Drawn) (tk : Nat) (os : OsState) : Option (Result × OS) :=
  (RO (VO (KTC N tk0) w h n d tk os) [] false 4000 100).2 (.call (.ref (N + 68)) ⟨[.ref a], []⟩) (os0 orcK)
noncomputable def kOut (x : Option (Result × OS)) : Option (Result × List Nat × Nat × Option Obj × Option Obj) := match x with
  | some (r, st) => some (r, st.eqs.map Prod.fst, st.m, st.T.get 0, st.T.get 1)
  | none => none
/-- a key's making came through, sealed -/
structure KeyRan (N tk0 a n : Nat) (w : World) (h : Heap) (d : Drawn) (tk : Nat) (os : OsState) : Prop where
  e : kOut (kR N tk0 a n w h d tk os) = some (.ok (.ret (.ref (n + 1))), outE (kR N tk0 a n w h d tk os), 3, some ⟨.type "dict", none, .dict #[] 0, #[]⟩, some (inst N n a))
theorem oldsNil (h : Heap) : OldsIn h [] := fun _ q => nomatch q
/-- a code by RO, two of its objects told -/
theorem ro_code2 {kt : Params → KT} {w : World} {h : Heap} {g : Array GenState} {d : Drawn} {tk n fuel : Nat} {os : OsState} {olds : List (Addr × Obj)} {orc : List Nat} {A : Around} {c : Code} {r : Result} {o0 o1 : Obj} {P : Result → Shared → Prop}
    (hk : KH (kt w.params) h) (hn : h.objs.size = n) (H : OldsIn h olds) (hl : h.NoLimit) (hA : A.handled = none) (hd : A.depth + 100 ≤ recursionLimit)
    (e : out1 ((RO (VO kt w h n d tk os) olds false fuel 100).2 c (os0 orc)) = some (r, outE ((RO (VO kt w h n d tk os) olds false fuel 100).2 c (os0 orc))))
    (e0 : (outB ((RO (VO kt w h n d tk os) olds false fuel 100).2 c (os0 orc))).get 0 = some o0) (e1 : (outB ((RO (VO kt w h n d tk os) olds false fuel 100).2 c (os0 orc))).get 1 = some o1)
    (k : ∀ h' tk', Ext h h' → h'.get? n = some o0 → h'.get? (n + 1) = some o1 → P r ⟨h', g, d, tk', os⟩) : codeAny (model Prg w) A c P ⟨h, g, d, tk, os⟩ :=
  ro_code hk.k hn H hl hA hd e fun h' tk' X D => k h' tk' X (D.own 0 _ e0).2 (D.own 1 _ e1).2
theorem KeyRan.code {N tk0 a n : Nat} {w : World} {h : Heap} {d : Drawn} {tk : Nat} {os : OsState} (Z : KeyRan N tk0 a n w h d tk os) {g : Array GenState} {A : Around} {P : Result → Shared → Prop}
    (hn : h.objs.size = n) (hk : KH (KTC N tk0 w.params) h) (hl : h.NoLimit) (hA : A.handled = none) (hd : A.depth + 100 ≤ recursionLimit)
    (k : ∀ h' tk', Ext h h' → h'.get? n = some ⟨.type "dict", none, .dict #[] 0, #[]⟩ → h'.get? (n + 1) = some (inst N n a) → P (.ok (.ret (.ref (n + 1)))) ⟨h', g, d, tk', os⟩) :
    codeAny (model Prg w) A (.call (.ref (N + 68)) ⟨[.ref a], []⟩) P ⟨h, g, d, tk, os⟩ := by
  have e := Z.e
  have e1 : out1 (kR N tk0 a n w h d tk os) = some (.ok (.ret (.ref (n + 1))), outE (kR N tk0 a n w h d tk os)) ∧ (outB (kR N tk0 a n w h d tk os)).get 0 = some ⟨.type "dict", none, .dict #[] 0, #[]⟩ ∧ (outB (kR N tk0 a n w h d tk os)).get 1 = some (inst N n a) := by
    generalize kR N tk0 a n w h d tk os = x at e
    cases x with
    | none => cases e
    | some y =>
      obtain ⟨r, st⟩ := y
      simp only [kOut, Option.some.injEq, Prod.mk.injEq] at e
      obtain ⟨rfl, e2, _, e3, e4⟩ := e
      exact ⟨by simp only [out1]; rw [e2], e3, e4⟩
  obtain ⟨e1, e2, e3⟩ := e1
  exact ro_code2 (kt := KTC N tk0) (olds := []) (orc := orcK) (fuel := 4000) hk hn (oldsNil h) hl hA hd e1 e2 e3 k
end Mine
end
section -- MSort
set_option linter.unusedVariables false
namespace Mine
/-- the sort's tree of questions, answered -/
noncomputable def evT {α : Type} (lt : Nat → Nat → Bool) : KasT α → α
  | .ret a => a
  | .ask i j k => evT lt (k (lt i j))
theorem evT_bind {α β : Type} (lt : Nat → Nat → Bool) (f : α → KasT β) : ∀ t : KasT α, evT lt (t.bind f) = evT lt (f (evT lt t))
  | .ret _ => rfl
  | .ask i j k => evT_bind lt f (k (lt i j))
/-- all questions are about places below n -/
noncomputable def AllLt {α : Type} (n : Nat) (P : α → Prop) : KasT α → Prop
  | .ret a => P a
  | .ask i j k => i < n ∧ j < n ∧ ∀ b, AllLt n P (k b)
theorem AllLt.bind {α β : Type} {n : Nat} {P : α → Prop} {P' : β → Prop} {f : α → KasT β} (hf : ∀ a, P a → AllLt n P' (f a)) : ∀ {t : KasT α}, AllLt n P t → AllLt n P' (t.bind f)
  | .ret a, h => hf a h
  | .ask _ _ k, h => ⟨h.1, h.2.1, fun b => AllLt.bind hf (h.2.2 b)⟩
theorem AllLt.mono {α : Type} {n : Nat} {P P' : α → Prop} (hf : ∀ a, P a → P' a) : ∀ {t : KasT α}, AllLt n P t → AllLt n P' t
  | .ret a, h => hf a h
  | .ask _ _ k, h => ⟨h.1, h.2.1, fun b => AllLt.mono hf (h.2.2 b)⟩
theorem AllLt.ev {α : Type} {n : Nat} {P : α → Prop} (lt : Nat → Nat → Bool) : ∀ (t : KasT α), AllLt n P t → P (evT lt t)
  | .ret _, h => h
  | .ask i j k, h => AllLt.ev lt (k (lt i j)) (h.2.2 (lt i j))
/-- the places' numbers, turned about -/
structure Bd (n : Nat) (p : Array Nat) : Prop where
  sz : p.size = n
  lt : ∀ k, p.getD k 0 < n
theorem Bd.of_perm {n : Nat} {p q : Array Nat} (h : Bd n p) (hp : q.Perm p) : Bd n q := by
  have hsz : q.size = p.size := hp.size_eq
  refine ⟨hsz.trans h.sz, fun k => ?_⟩
  by_cases hk : k < q.size
  · have e : q.getD k 0 = q[k] := by simp [Array.getD, hk]
    have hm : q[k] ∈ p := (Array.Perm.mem_iff hp).mp (Array.getElem_mem hk)
    obtain ⟨i, hi, e2⟩ := Array.mem_iff_getElem.mp hm
    have := h.lt i
    have e3 : p.getD i 0 = p[i] := by simp [Array.getD, hi]
    rw [e, ← e2, ← e3]
    exact this
  · have e : q.getD k 0 = 0 := by simp [Array.getD, hk]
    rw [e]
    exact Nat.lt_of_le_of_lt (Nat.zero_le _) (h.lt k)
theorem Bd.rev {n : Nat} {p : Array Nat} (h : Bd n p) (i j : Nat) : Bd n (kas_rev p i j) := h.of_perm (mirror_perm _ _ _ _)
theorem Bd.bub {n : Nat} {p : Array Nat} (h : Bd n p) (i j : Nat) : Bd n (bubble p i j) := h.of_perm (bubble_perm _ _ _)
theorem Bd.start {n : Nat} (hn : 0 < n) : Bd n (List.toArray (List.range n)) := by
  refine ⟨by simp, fun k => ?_⟩
  by_cases hk : k < n
  · simp [Array.getD, hk]
  · simp [Array.getD, hk]; exact hn
theorem all_asc {n : Nat} {p : Array Nat} (h : Bd n p) : ∀ f m, AllLt n (fun _ => True) (kas_asc p f m)
  | 0, _ => trivial
  | f + 1, m => ⟨h.lt _, h.lt _, fun b => by cases b <;> simp only [if_true, Bool.false_eq_true, if_false] <;> first | exact trivial | exact all_asc h f (m + 1)⟩
theorem all_desc {n : Nat} : ∀ f p m q, Bd n p → AllLt n (fun r : Array Nat × Nat × Nat => Bd n r.1) (kas_desc f p m q)
  | 0, _, _, _, h => h
  | f + 1, p, m, q, h => by
    refine ⟨h.lt _, h.lt _, fun b => ?_⟩
    cases b with
    | true =>
      simp only [if_true]
      split
      · exact all_desc f _ _ _ (h.rev _ _)
      · exact all_desc f _ _ _ h
    | false =>
      simp only [Bool.false_eq_true, if_false]
      refine ⟨h.lt _, h.lt _, fun b => ?_⟩
      cases b with
      | true => simp only [if_true]; exact h
      | false => simp only [Bool.false_eq_true, if_false]; exact all_desc f _ _ _ h
theorem all_tail3 {n : Nat} (m r : Nat) (p : Array Nat) (h : Bd n p) : AllLt n (fun r : Nat × Array Nat => Bd n r.2) (kas_tail3 m r p) := by
  unfold kas_tail3
  refine AllLt.bind (fun a _ => ?_) (all_asc (h.rev _ _) _ _)
  exact h.rev _ _
theorem all_descPart {n : Nat} (m r : Nat) (p : Array Nat) (h : Bd n p) : AllLt n (fun r : Nat × Array Nat => Bd n r.2) (kas_descPart m r p) := by
  refine AllLt.bind (fun a ha => ?_) (all_desc _ _ _ _ h)
  split
  · exact all_tail3 _ _ _ (ha.rev _ _)
  · exact all_tail3 _ _ _ ha
theorem all_count {n : Nat} (r : Nat) (p : Array Nat) (h : Bd n p) : AllLt n (fun r : Nat × Array Nat => Bd n r.2) (kas_count r p) := by
  refine AllLt.bind (fun a _ => ?_) (all_asc h _ _)
  split
  · exact h
  · split
    · refine ⟨h.lt _, h.lt _, fun b => ?_⟩
      cases b with
      | true => simp only [if_true]; exact h
      | false => simp only [Bool.false_eq_true, if_false]; exact all_descPart _ _ _ (h.rev _ _)
    · exact all_descPart _ _ _ h
theorem all_place {n : Nat} {p : Array Nat} (h : Bd n p) (k : Nat) : ∀ f l r, AllLt n (fun _ => True) (kas_place p k f l r)
  | 0, _, _ => trivial
  | f + 1, l, r => by
    unfold kas_place
    split
    · exact trivial
    · refine ⟨h.lt _, h.lt _, fun b => ?_⟩
      cases b with
      | true => simp only [if_true]; exact all_place h k f _ _
      | false => simp only [Bool.false_eq_true, if_false]; exact all_place h k f _ _
theorem all_bin {n : Nat} : ∀ f p k, Bd n p → AllLt n (fun p : Array Nat => Bd n p) (kas_bin f p k)
  | 0, _, _, h => h
  | f + 1, p, k, h => AllLt.bind (fun l _ => all_bin f _ _ (h.bub _ _)) (all_place h k _ _ _)
theorem all_sort {n : Nat} (hn : 0 < n) : AllLt n (fun p : Array Nat => Bd n p) (kas_sort n) := by
  refine AllLt.bind (fun a ha => ?_) (all_count _ _ (Bd.start hn))
  split
  · exact all_bin _ _ _ ha
  · exact ha
/-- the order that the sort finds -/
noncomputable def sortP (lt : Nat → Nat → Bool) (n : Nat) : Array Nat := evT lt (kas_sort n)
theorem sortP_bd {lt : Nat → Nat → Bool} {n : Nat} (hn : 0 < n) : Bd n (sortP lt n) := AllLt.ev lt _ (all_sort hn)
theorem kasWp_all {α : Type} {n : Nat} {P : α → Prop} {cmp : Nat → Nat → (Bool → Shared → Prop) → Shared → Prop} {lt : Nat → Nat → Bool} {I : Shared → Prop}
    (hc : ∀ i j C s, i < n → j < n → I s → (∀ s', I s' → C (lt i j) s') → cmp i j C s) : ∀ {t : KasT α} {s : Shared}, AllLt n P t → I s → t.kasWp cmp (fun a s' => a = evT lt t ∧ I s') s
  | .ret a, s, _, hI => ⟨rfl, hI⟩
  | .ask i j k, s, h, hI => hc i j _ s h.1 h.2.1 hI fun s' hI' => kasWp_all hc (h.2.2 (lt i j)) hI'
end Mine
end
section -- MLt
set_option maxRecDepth 100000
set_option linter.constructorNameAsVariable false
namespace Mine
/-- what a look for a method walks over -/
noncomputable abbrev KC (P : Params) (tk0 N : Nat) : Frag := [(N + 68, oCls tk0 N), (N + 67, oNs P tk0 N), (N + 32, oLt P N)]
section
variable {prog : Program} {w : World} {A : Around} {E : Value → Shared → Prop} {s : Shared} {K : Frag} {x C f : Addr} {ox : Obj} {od : Option Obj} {b : Value} {Q : Bool → Shared → Prop}
theorem lt_inst (hu : A.units < cLine) (X : K.In s.heap) (I : InstAt s.heap x ox C od) (hs : findIn K (.ref C) "__lt__" = some (some (.ref f))) (hf : isFn K (.ref f) = true)
    (h : wpAny (model prog w) A (call (.ref f) [.ref x, b]) (W.BoolBack Q) E s) : wpAny (model prog w) A (keyLt' oneType' (.ref x) b) Q E s := by
  rw [keyLt'_oneType, oneLt'_eq]
  simp only [if_true]
  refine wpAny_bind (wpAny_cRoomFor hu ?_)
  refine wpAny_bind (ifBound_K X I hs hf (wpAny_mono h (fun v s' hv => ?_) fun _ _ e => e))
  cases v <;> first | exact hv.elim | skip
  exact wpAny_truthy_bool hv
end
structure LtFound (P : Params) (tk0 N : Nat) : Prop where
  f : findIn (KC P tk0 N) (.ref (N + 68)) "__lt__" = some (some (.ref (N + 32)))
  i : isFn (KC P tk0 N) (.ref (N + 32)) = true
theorem ltf_5 (P : Params) (tk0 : Nat) : LtFound P tk0 151 := ⟨by kernel_rfl, by kernel_rfl⟩
theorem ltf_6 (P : Params) (tk0 : Nat) : LtFound P tk0 163 := ⟨by kernel_rfl, by kernel_rfl⟩
theorem ltf_7 (P : Params) (tk0 : Nat) : LtFound P tk0 175 := ⟨by kernel_rfl, by kernel_rfl⟩
theorem ltf_8 (P : Params) (tk0 : Nat) : LtFound P tk0 187 := ⟨by kernel_rfl, by kernel_rfl⟩
theorem ltf_9 (P : Params) (tk0 : Nat) : LtFound P tk0 199 := ⟨by kernel_rfl, by kernel_rfl⟩
theorem ltf_10 (P : Params) (tk0 : Nat) : LtFound P tk0 211 := ⟨by kernel_rfl, by kernel_rfl⟩
theorem ltf_11 (P : Params) (tk0 : Nat) : LtFound P tk0 223 := ⟨by kernel_rfl, by kernel_rfl⟩
theorem ltf_12 (P : Params) (tk0 : Nat) : LtFound P tk0 235 := ⟨by kernel_rfl, by kernel_rfl⟩
end Mine
end
section -- MCall
set_option maxRecDepth 100000
set_option linter.constructorNameAsVariable false
namespace Mine
/-- a row of expressions by RO -/
noncomputable def evs (V : XV) (olds : List (Addr × Obj)) : List Expr → Env → OS → Option (List Value × OS)
  | [], _, st => some ([], st)
  | e :: es, env, st => match (RO V olds false 4000 100).1 _ (evalF e env) st with
    | some (.ok v, st1) => match evs V olds es env st1 with
      | some (vs, st2) => some (v :: vs, st2)
      | none => none
    | _ => none
section
variable {V : XV} {olds : List (Addr × Obj)} {env : Env}
theorem evs_eq : ∀ {es : List Expr} {st st' : OS} {vs : List Value}, evs V olds es env st = some (vs, st') → EqOk st'.eqs → EqOk st.eqs
  | [], st, st', vs, e, h => by cases e; exact h
  | x :: es, st, st', vs, e, h => by
    unfold evs at e
    split at e
    · rename_i v st1 e1
      split at e
      · rename_i vs2 st2 e2
        cases e
        exact (RO_eq V olds false 4000 100).1 _ _ _ _ _ e1 (evs_eq e2 h)
      · cases e
    · cases e
theorem evs_cons {x : Expr} {es : List Expr} {st st' : OS} {vs : List Value} (e : evs V olds (x :: es) env st = some (vs, st')) :
    ∃ v st1 vs2, (RO V olds false 4000 100).1 _ (evalF x env) st = some (.ok v, st1) ∧ evs V olds es env st1 = some (vs2, st') ∧ vs = v :: vs2 := by
  unfold evs at e
  split at e
  · rename_i v st1 e1
    split at e
    · rename_i vs2 st2 e2
      cases e
      exact ⟨v, st1, vs2, e1, e2, rfl⟩
    · cases e
  · cases e
variable (O : V.Ok) (H : OldsIn V.h₀ olds) (hl : V.h₀.NoLimit) {g : Array GenState} {A : Around} {E : Value → Shared → Prop}
include O H hl
theorem evs_one {x : Expr} {st st1 : OS} {v : Value} {h : Heap} {Q : Value → Shared → Prop} (e : (RO V olds false 4000 100).1 _ (evalF x env) st = some (.ok v, st1)) (hA : A.handled = none) (hd : A.depth + 100 ≤ recursionLimit) (D : Rep V h st.T st.m []) (he : EqOk st1.eqs)
    (k : ∀ h', Rep V h' st1.T st1.m [] → Q v (shO V g h' st1)) : wpAny (model V.prog V.w) A (eval x env) Q E (shO V g h st) := by
  rw [evalF_eq]
  exact (RO_sound O H hl false g 4000 100).1 _ _ _ _ _ e h A Q E hA hd D he k
theorem evs_spliced : ∀ {es : List Expr} {st st' : OS} {vs : List Value} {h : Heap} {Q : List Value → Shared → Prop}, evs V olds es env st = some (vs, st') → A.handled = none → A.depth + 100 ≤ recursionLimit → Rep V h st.T st.m [] → EqOk st'.eqs →
    (∀ h', Rep V h' st'.T st'.m [] → Q vs (shO V g h' st')) → wpAny (model V.prog V.w) A (spliced (es.map fun e => (false, eval e env))) Q E (shO V g h st)
  | [], st, st', vs, h, Q, e, hA, hd, D, he, k => by cases e; exact Calls.spliced_nil (k h D)
  | x :: es, st, st', vs, h, Q, e, hA, hd, D, he, k => by
    obtain ⟨v, st1, vs2, e1, e2, rfl⟩ := evs_cons e
    exact Calls.spliced_cons (evs_one O H hl e1 hA hd D (evs_eq e2 he) fun h1 D1 => evs_spliced e2 hA hd D1 he k)
/-- a call by name of a def or a lambda -/
theorem evs_call {id : Str} {p pos : Pos} {a : Expr} {es : List Expr} {st st' : OS} {f : Addr} {vs : List Value} {o : Obj} {fd : FuncData} {h : Heap} {Q : Value → Shared → Prop}
    (e : evs V olds (.Name id p :: a :: es) env st = some (.ref f :: vs, st')) (hA : A.handled = none) (hd : A.depth + 100 ≤ recursionLimit) (D : Rep V h st.T st.m []) (he : EqOk st'.eqs)
    (hse : backTo pos (starEach (a :: es) env) = (a :: es).map fun e => (false, eval e env)) (ho : ∀ h', Rep V h' st'.T st'.m [] → h'.get? f = some o) (hf : o.data = .func fd)
    (k : ∀ h', Rep V h' st'.T st'.m [] → wpAny (model V.prog V.w) A (call (.ref f) vs) Q E (shO V g h' st')) : wpAny (model V.prog V.w) A (eval (.Call (.Name id p) (a :: es) [] pos) env) Q E (shO V g h st) := by
  obtain ⟨v, st1, vs2, e1, e2, q⟩ := evs_cons e
  cases q
  refine wpAny_Call_NameR (evs_one O H hl e1 hA hd D (evs_eq e2 he) fun h1 D1 => ?_)
  rw [hse]
  refine Calls.callWith_function (o := o) (fd := fd) (Calls.evalArgs_plain ?_)
  refine evs_spliced O H hl (es := a :: es) e2 hA hd D1 he fun h2 D2 => ⟨⟨ho h2 D2, hf⟩, k h2 D2⟩
end
end Mine
end
section -- MCallB
set_option maxRecDepth 100000
set_option linter.constructorNameAsVariable false
namespace Mine
/-- a call's entry by RO -/
noncomputable def ent (V : XV) (olds : List (Addr × Obj)) (fd : FuncData) (f : Addr) (args : Args) (st : OS) : Option (Env × OS) :=
  match (RO V olds false 4000 100).1 _ (bindF fd args) st with
  | some (.ok binds, st1) => match (RO V olds false 4000 100).1 _ (envF fd.scope fd.globals fd.closure binds (fd.qualname ++ ".<locals>.") (some f) fd.code none fd.builtins) st1 with
    | some (.ok env, st2) => some (env, st2)
    | _ => none
  | _ => none
section
variable {V : XV} {olds : List (Addr × Obj)} (O : V.Ok) (H : OldsIn V.h₀ olds) (hl : V.h₀.NoLimit) {g : Array GenState} {A : Around}
include O H hl
theorem ent_expr {fd : FuncData} {f : Addr} {o : Obj} {args : Args} {st st' : OS} {env : Env} {body : Expr} {h : Heap} {P : Result → Shared → Prop} (e : ent V olds fd f args st = some (env, st')) (ho : h.get? f = some o) (hf : o.data = .func fd)
    (hco : fd.scope.isCoroutine = false) (hgen : fd.scope.isGenerator = false) (hb : fd.body = .expr body) (hcd : h.CodeRec fd.code fd.qualname)
    (hA : A.handled = none) (hd : A.depth + 101 ≤ recursionLimit) (D : Rep V h st.T st.m []) (he : EqOk st'.eqs) 
    (k : ∀ h', Rep V h' st'.T st'.m [] → codeAny (model V.prog V.w) A (.expr body env) P (shO V g h' st')) : codeAny (model V.prog V.w) A (.call (.ref f) args) P (shO V g h st) := by
  unfold ent at e
  split at e
  · rename_i binds st1 e1
    split at e
    · rename_i env' st2 e2
      cases e
      have o1 := (RO_eq V olds false 4000 100).1 _ _ _ _ _ e2 he
      refine kla_callFunE (by omega) ho hf hco hgen hb hcd ?_
      rw [bindF_eq]
      refine (RO_sound O H hl false g 4000 100).1 _ _ _ _ _ e1 h A.in1 _ _ hA (by show A.depth + 100 ≤ _; omega) D o1 fun h1 D1 => ?_
      show wpAny _ _ (newFunctionEnv _ _ _ _ _ _ _ _ _) _ _ _
      rw [envF_eq]
      exact (RO_sound O H hl false g 4000 100).1 _ _ _ _ _ e2 h1 A.in1 _ _ hA (by show A.depth + 100 ≤ _; omega) D1 he fun h2 D2 => ⟨rep_lim hl D2, k h2 D2⟩
    · cases e
  · cases e
theorem ent_stmts {fd : FuncData} {f : Addr} {o : Obj} {args : Args} {st st' : OS} {env : Env} {body : List Stmt} {h : Heap} {P : Result → Shared → Prop} (e : ent V olds fd f args st = some (env, st')) (ho : h.get? f = some o) (hf : o.data = .func fd)
    (hco : fd.scope.isCoroutine = false) (hgen : fd.scope.isGenerator = false) (hb : fd.body = .stmts body) (hcd : h.CodeRec fd.code fd.qualname)
    (hA : A.handled = none) (hd : A.depth + 101 ≤ recursionLimit) (D : Rep V h st.T st.m []) (he : EqOk st'.eqs) 
    (k : ∀ h', Rep V h' st'.T st'.m [] → wpAny (model V.prog V.w) (A.deeper env) (execs body env) (fun f s' => P (.ok (.ret (match f with | .ret v => v | _ => .none))) s') (fun _ _ => False) (shO V g h' st')) : codeAny (model V.prog V.w) A (.call (.ref f) args) P (shO V g h st) := by
  unfold ent at e
  split at e
  · rename_i binds st1 e1
    split at e
    · rename_i env' st2 e2
      cases e
      have o1 := (RO_eq V olds false 4000 100).1 _ _ _ _ _ e2 he
      refine codeAny_call_function (by omega) ho hf hco hgen hb hcd ?_
      rw [bindF_eq]
      refine (RO_sound O H hl false g 4000 100).1 _ _ _ _ _ e1 h A.in1 _ _ hA (by show A.depth + 100 ≤ _; omega) D o1 fun h1 D1 => ?_
      show wpAny _ _ (newFunctionEnv _ _ _ _ _ _ _ _ _) _ _ _
      rw [envF_eq]
      refine (RO_sound O H hl false g 4000 100).1 _ _ _ _ _ e2 h1 A.in1 _ _ hA (by show A.depth + 100 ≤ _; omega) D1 he fun h2 D2 => ⟨rep_lim hl D2, codeAny_func ?_⟩
      exact wpAny_mono (k h2 D2) (fun _ _ q => q) (fun _ _ q => q.elim)
    · cases e
  · cases e
end
end Mine
end
section -- MTurn
namespace Mine
set_option maxRecDepth 100000
set_option maxHeartbeats 4000000
noncomputable def hbF (x : Int) : Int := (Builtin.Int.intBits x : Int) - 1
theorem hb_code (w : World) (p : Program) (loose : List Str) (mean : ExcName → Option Value) (mg mb : Str → Option Value) (s : Shared) (x : Int) (t : Tok) (Q E)
    (X : (Mine.hk.heap_39 w.params).In s.heap) (T : Top p loose mean mg mb s.heap)
    (hQ : ∀ h' tk t, Ext s.heap h' → Q (.int (hbF x) t) { s with heap := h', toks := tk }) :
    wpAny (model PySem.Challenge.rw_mr0055_01.prog w) (Ar 800 8000) (call (.ref 21) [.int x t]) Q E s := by
  revert X; k_fill; intro X
  refine wpAny_call ?_
  k_dflt (refine' enter X T.nolimit ?k6 ?k7 ?k8 ?k9 ?kB ?_ ?c2 ?c3 ?c4 ?c5; (case k6 => k_is); (case k7 => k_is); (case k8 => decide); (case k9 => exact BindsTo.of_eq rfl); (case kB => exact locs rfl); (case c2 => exact rfl); (case c3 => exact rfl); (case c4 => exact rfl); (case c5 => decide))
  intro L' h' F' N'
  dsimp only
  try k_fold
  k_steps
  all_goals exact hQ _ _ _ F'.keep
theorem hb_at {w : World} {p : Program} {loose : List Str} {mean : ExcName → Option Value} {mg mb : Str → Option Value} {s : Shared} {x : Int} {t : Tok} {Q E} {A : Around} {h₀ : Heap} {L : Addr} {m} {news}
    (F : Fr h₀ L s.heap m) (N : News h₀ L s.heap news)
    (X : (Mine.hk.heap_39 w.params).In h₀) (T : Top p loose mean mg mb h₀) (ha : A.handled = none) (hd : A.depth ≤ 800) (hu : A.units ≤ 8000)
    (hQ : ∀ h' tk t, Fr h₀ L h' m → News h₀ L h' news → Q (.int (hbF x) t) { s with heap := h', toks := tk }) :
    wpAny (model PySem.Challenge.rw_mr0055_01.prog w) A (call (.ref 21) [.int x t]) Q E s :=
  weaken ha hd hu (hb_code w p loose mean mg mb s x t Q E (X.keeps F.keep) (T.keeps F.keep) fun h' tk t k => hQ h' tk t (F.kept k) (N.grown k))
local macro_rules | `(tactic| walk_at "call ref") => `(tactic| (k_here; (with_reducible show wpAny _ _ (call (Value.ref 21) [Value.int _ _]) _ _ _); k_dflt (refine' hb_at ?F ?N ?X ?T ?h ?d ?u ?_; (case F => k_asm); (case N => k_asm); (case X => k_asm); (case T => k_asm); (case h => exact rfl); (case d => exact Nat.le_of_ble_eq_true rfl); (case u => exact Nat.le_of_ble_eq_true rfl); k_whole); intro h' tk' t' F' N'))

noncomputable def turnStep (n1 n2 n3 : List Int) (p : Int × Int) (k : Int) : Int × Int :=
  (if p.fst < hbF (Builtin.bitXor (n1.getD k.toNat 0) (n2.getD k.toNat 0)) ∧ ¬n3.getD k.toNat 0 = 0 then
      hbF (Builtin.bitXor (n1.getD k.toNat 0) (n2.getD k.toNat 0))
    else
      if p.fst < hbF (Builtin.bitXor (n1.getD k.toNat 0) (n2.getD k.toNat 0)) ∧ n3.getD k.toNat 0 = 0 then
        hbF (Builtin.bitXor (n1.getD k.toNat 0) (n2.getD k.toNat 0))
      else p.fst,
    if p.fst < hbF (Builtin.bitXor (n1.getD k.toNat 0) (n2.getD k.toNat 0)) ∧ ¬n3.getD k.toNat 0 = 0 then
      n2.getD k.toNat 0 - n1.getD k.toNat 0
    else
      if p.fst < hbF (Builtin.bitXor (n1.getD k.toNat 0) (n2.getD k.toNat 0)) ∧ n3.getD k.toNat 0 = 0 then
        n1.getD k.toNat 0 - n2.getD k.toNat 0
      else p.snd)
noncomputable def turnF (n1 n2 n3 : List Int) : Int := (List.foldl (turnStep n1 n2 n3) (-1, 0) (rangeKs 0 ((n3.length : Int) - 0).toNat)).snd
theorem turn_code (w : World) (p : Program) (loose : List Str) (mean : ExcName → Option Value) (mg mb : Str → Option Value) (s : Shared) (l1 l2 l3 : Addr) (v1 v2 v3 : List Value) (n1 n2 n3 : List Int) (Q E)
    (X : (Mine.hk.heap_39 w.params).In s.heap) (T : Top p loose mean mg mb s.heap)
    (a1 : s.heap.IsList l1 v1.toArray) (a2 : s.heap.IsList l2 v2.toArray) (a3 : s.heap.IsList l3 v3.toArray)
    (i1 : IntsAre v1 n1) (i2 : IntsAre v2 n2) (i3 : IntsAre v3 n3) (e1 : n3.length < n1.length) (e2 : n3.length < n2.length) (e3 : n3.length ≤ 3)
    (hQ : ∀ h' tk t, Ext s.heap h' → Q (.int (turnF n1 n2 n3) t) { s with heap := h', toks := tk }) :
    wpAny (model PySem.Challenge.rw_mr0055_01.prog w) (Ar 700 6000) (call (.ref 44) [.ref l1, .ref l2, .ref l3]) Q E s := by
  revert X; k_fill; intro X
  refine wpAny_call ?_
  k_dflt (refine' enter X T.nolimit ?k6 ?k7 ?k8 ?k9 ?kB ?_ ?c2 ?c3 ?c4 ?c5; (case k6 => k_is); (case k7 => k_is); (case k8 => decide); (case k9 => exact BindsTo.of_eq rfl); (case kB => exact locs rfl); (case c2 => exact rfl); (case c3 => exact rfl); (case c4 => exact rfl); (case c5 => decide))
  intro L' h' F' N'
  dsimp only
  try k_fold
  k_steps
  all_goals exact hQ _ _ _ (by rename Fr _ _ _ _ => hF; exact hF.keep)
end Mine
end
section -- MLtB
set_option maxRecDepth 100000
set_option linter.constructorNameAsVariable false
namespace Mine
structure LtP where
  id : Str
  p : Pos
  a : Expr
  b : Expr
  q : Pos
  k : Nat
  pc : Pos
  r : Pos
  t : Pos
noncomputable def ltPt : List Stmt → LtP
  | .Return (some (.Compare (.Call (.Name id p) [a, b] [] q) _ [.Constant (.int 0) k pc] r)) t :: _ => ⟨id, p, a, b, q, k, pc, r, t⟩
  | _ => ⟨Str.ofString "", ⟨0, 0, 0, 0⟩, (.Constant .none 0 ⟨0, 0, 0, 0⟩), (.Constant .none 0 ⟨0, 0, 0, 0⟩), ⟨0, 0, 0, 0⟩, 0, ⟨0, 0, 0, 0⟩, ⟨0, 0, 0, 0⟩, ⟨0, 0, 0, 0⟩⟩
noncomputable abbrev ltp (P : Params) : LtP := ltPt (fnL P).body
theorem lt_bd (P : Params) : (fnL P).body = [.Return (some (.Compare (.Call (.Name (ltp P).id (ltp P).p) [(ltp P).a, (ltp P).b] [] (ltp P).q) [.Lt] [.Constant (.int 0) (ltp P).k (ltp P).pc] (ltp P).r)) (ltp P).t] := by kernel_rfl
/-- a call's entry, then a row of expressions, by RO -/
noncomputable def entEvs (V : XV) (olds : List (Addr × Obj)) (fd : FuncData) (f : Addr) (args : Args) (es : List Expr) (orc : List Nat) : Option (Env × List Value × OS) :=
  match ent V olds fd f args (os0 orc) with
  | some (env, st1) => match evs V olds es env st1 with
    | some (vs, st2) => some (env, vs, st2)
    | none => none
  | none => none
theorem entEvs_ok {V : XV} {olds : List (Addr × Obj)} {fd : FuncData} {f : Addr} {args : Args} {es : List Expr} {orc : List Nat} {env : Env} {vs : List Value} {st2 : OS} (e : entEvs V olds fd f args es orc = some (env, vs, st2)) :
    ∃ st1, ent V olds fd f args (os0 orc) = some (env, st1) ∧ evs V olds es env st1 = some (vs, st2) := by
  unfold entEvs at e
  split at e
  · rename_i env' st1 e1
    split at e
    · rename_i vs' st2' e2
      cases e
      exact ⟨st1, e1, e2⟩
    · cases e
  · cases e
noncomputable def eeOut (x : Option (Env × List Value × OS)) : Option (List Value × List Nat) := match x with
  | some (_, vs, st) => some (vs, st.eqs.map Prod.fst)
  | none => none
noncomputable def eeS (x : Option (Env × List Value × OS)) : List Nat := match x with
  | some (_, _, st) => st.eqs.map Prod.snd
  | none => []
theorem ee_ok {x : Option (Env × List Value × OS)} {vs : List Value} (e : eeOut x = some (vs, eeS x)) : ∃ env st, x = some (env, vs, st) ∧ EqOk st.eqs := by
  cases x with
  | none => cases e
  | some y =>
    obtain ⟨env, vs', st⟩ := y
    simp only [eeOut, eeS, Option.some.injEq, Prod.mk.injEq] at e
    obtain ⟨rfl, e⟩ := e
    exact ⟨env, st, rfl, eq_of_maps e⟩
noncomputable abbrev fdLt (P : Params) (N : Nat) : FuncData := match (oLt P N).data with
  | .func fd => fd
  | _ => default
noncomputable abbrev fdLam (P : Params) (N : Nat) : FuncData := match (oLam P N).data with
  | .func fd => fd
  | _ => default
noncomputable def orcL : List Nat := [1, 1, 1, 1, 0, 1, 2, 0, 0, 0, 2, 0, 0, 0, 0, 0, 0, 0, 0, 0, 0, 0, 2, 0, 0, 0, 0, 0, 2, 0, 2, 1, 4, 0, 0, 0, 4, 0, 0, 0, 0, 0, 0, 0, 0, 0, 0, 0, 4, 0, 0, 0, 0, 0, 4, 0, 4]
noncomputable abbrev ltR0 (N tk0 x y dx dy a b n : Nat) (w : World) (h : Heap) (d : Drawn) (tk : Nat) (os : OsState) :=
  entEvs (VO (KTC N tk0) w h n d tk os) [(x, inst N dx a), (y, inst N dy b)] (fdLt w.params N) (N + 32) ⟨[.ref x, .ref y], []⟩ [.Name (ltp w.params).id (ltp w.params).p, (ltp w.params).a, (ltp w.params).b] orcL
structure LtRan (N tk0 x y dx dy a b n : Nat) (w : World) (h : Heap) (d : Drawn) (tk : Nat) (os : OsState) : Prop where
  e : eeOut (ltR0 N tk0 x y dx dy a b n w h d tk os) = some ([.ref (N + 7), .ref a, .ref b], eeS (ltR0 N tk0 x y dx dy a b n w h d tk os))
/-- the lambda of law's first sort -/
structure LaP where
  id : Str
  p : Pos
  a : Expr
  b : Expr
  c : Expr
  q : Pos
noncomputable def laPt : Expr → LaP
  | .Call (.Name id p) [a, b, c] [] q => ⟨id, p, a, b, c, q⟩
  | _ => ⟨Str.ofString "", ⟨0, 0, 0, 0⟩, (.Constant .none 0 ⟨0, 0, 0, 0⟩), (.Constant .none 0 ⟨0, 0, 0, 0⟩), (.Constant .none 0 ⟨0, 0, 0, 0⟩), ⟨0, 0, 0, 0⟩⟩
noncomputable abbrev lap (P : Params) : LaP := laPt (lamQ P).2.1
theorem la_bd (P : Params) : (lamQ P).2.1 = .Call (.Name (lap P).id (lap P).p) [(lap P).a, (lap P).b, (lap P).c] [] (lap P).q := by kernel_rfl
noncomputable def orcA : List Nat := [1, 1, 1, 1, 0, 1, 1, 2]
noncomputable abbrev laR0 (N a b n : Nat) (w : World) (h : Heap) (d : Drawn) (tk : Nat) (os : OsState) :=
  entEvs (VO KT2 w h n d tk os) [(71, celO (.ref 76))] (fdLam w.params N) (N + 7) ⟨[.ref a, .ref b], []⟩ [.Name (lap w.params).id (lap w.params).p, (lap w.params).a, (lap w.params).b, (lap w.params).c] orcA
structure LaRan (N a b n : Nat) (w : World) (h : Heap) (d : Drawn) (tk : Nat) (os : OsState) : Prop where
  e : eeOut (laR0 N a b n w h d tk os) = some ([.ref 44, .ref a, .ref b, .ref 76], eeS (laR0 N a b n w h d tk os))
theorem la_ran (N a b n : Nat) (w : World) (h : Heap) (d : Drawn) (tk : Nat) (os : OsState) : LaRan N a b n w h d tk os := ⟨by kernel_rfl⟩
end Mine
end
section -- MRed
set_option maxRecDepth 100000
set_option linter.constructorNameAsVariable false
set_option linter.unusedVariables false
namespace Mine
theorem by2 {P : World → Prop} (h : ∀ b w, P (pin1 w b)) (w : World) : P w := by
  have := h (w.params.followText "special-get-raises") w
  unfold pin1 at this
  rw [World.withFollow_self] at this
  exact this
theorem sub2 (P : Params) : ((K2 P).map fun p => (K2 P).lookup p.1) = (K2 P).map fun p => some p.2 := by kernel_rfl
theorem kh_ofK {K : Frag} {h : Heap} (m : ∀ p ∈ K, h.get? p.1 = some p.2) : KH (KT.of K) h := by
  have z : ∀ {K : Frag}, (∀ p ∈ K, h.get? p.1 = some p.2) → AllIn h K := by
    intro K
    induction K with
    | nil => exact fun _ => trivial
    | cons p K ih => exact fun H => ⟨H p (.head _), ih fun q hq => H q (.tail _ hq)⟩
  exact KH.mk (holds_of (z m))
theorem kh2 {P : Params} {h : Heap} (X : (K2 P).In h) : KH (KT2 P) h := kh_ofK fun p hp => X _ _ (List.map_inj_left.mp (sub2 P) p hp)
theorem kh_at' {t : KT} {h : Heap} (K : KH t h) {a : Addr} {o : Obj} (e : t.get a = some o) : h.get? a = some o := kt_at K.k e
/-- reduce, as the known objects have it -/
structure RdAt (P : Params) : Prop where
  obj : (KT2 P).get 37 = some (objAt P 37)
  data : (objAt P 37).data = .func (fdAt P 37)
  co : (fdAt P 37).scope.isCoroutine = false
  gen : (fdAt P 37).scope.isGenerator = false
  body : (fdAt P 37).body = .stmts (bodyAt P 37)
  code : (fdAt P 37).code = .ref 36
  cobj : (KT2 P).get 36 = some (objAt P 36)
  cdat : (objAt P 36).data = .fields (fldAt P 36)
  name : (fldAt P 36)[1]? = some (.str (fdAt P 37).qualname (tokAt P 36))
theorem rdAt (P : Params) : RdAt P := ⟨by kernel_rfl, by kernel_rfl, by kernel_rfl, by kernel_rfl, by kernel_rfl, by kernel_rfl, by kernel_rfl, by kernel_rfl, by kernel_rfl⟩
/-- the loop's shape -/
noncomputable abbrev nmr (s : String) (p : Pos) : Expr := .Name (Str.ofString s) p
noncomputable abbrev ldr (q : Nat → Pos) : Stmt := .Assign [nmr "value" (q 0)] (.Call (nmr "function" (q 1)) [nmr "value" (q 2), nmr "element" (q 3)] [] (q 4)) (q 5)
noncomputable abbrev lpr (q : Nat → Pos) : List Stmt := [.For (nmr "element" (q 6)) (nmr "it" (q 7)) [ldr q] [] (q 8), .Return (some (nmr "value" (q 9))) (q 10)]
noncomputable def ptR : List Stmt → List Pos
  | [.For (.Name _ a6) (.Name _ a7) [.Assign [.Name _ a0] (.Call (.Name _ a1) [.Name _ a2, .Name _ a3] _ a4) a5] _ a8, .Return (some (.Name _ a9)) a10] => [a0, a1, a2, a3, a4, a5, a6, a7, a8, a9, a10]
  | _ => []
noncomputable abbrev qR (P : Params) : Nat → Pos := fun i => (ptR ((bodyAt P 37).drop 2)).getD i ⟨0, 0, 0, 0⟩
noncomputable abbrev envR (P : Params) (n : Nat) : Env :=
  { scope := (fdAt P 37).scope, locals := n, globals := 3, cells := [], qual := (fdAt P 37).qualname ++ ".<locals>.", func := some 37, code := .ref 36, frame := some n, builtins := 0 }
structure ShR (P : Params) : Prop where
  eq : (bodyAt P 37).drop 2 = lpr (qR P)
  kind : ∀ n, (envR P n).scope.kind = .function
  val : ∀ n, (envR P n).kindOf (Str.ofString "value") = some .local
  fn : ∀ n, (envR P n).kindOf (Str.ofString "function") = some .local
  it : ∀ n, (envR P n).kindOf (Str.ofString "it") = some .local
  el : ∀ n, (envR P n).kindOf (Str.ofString "element") = some .local
  hp : ∀ n, ((envR P n).scope.kind == .class || ((envR P n).scope.kind == .module && (envR P n).locals != (envR P n).globals)) = false
  fs : ∀ n x, foldedSetIterable (nmr "it" (qR P 7)) (envR P n) x = pure x
theorem shR (P : Params) : ShR P := ⟨by kernel_rfl, fun _ => by kernel_rfl, fun _ => by kernel_rfl, fun _ => by kernel_rfl, fun _ => by kernel_rfl, fun _ => by kernel_rfl, fun _ => by kernel_rfl, fun _ _ => by kernel_rfl⟩
noncomputable def strKeysR : List DictEntry → Bool
  | [] => true
  | e :: l => match e.key with
    | .str _ _ => strKeysR l
    | _ => false
theorem strKeysR_ok : ∀ {l : List DictEntry}, strKeysR l = true → ∀ e ∈ l, ∃ n t, e.key = .str n t
  | [], _, _, h => nomatch h
  | e :: l, hb, x, hx => by
    unfold strKeysR at hb
    split at hb
    · rename_i n t hk
      rcases List.mem_cons.mp hx with rfl | hx
      · exact ⟨n, t, hk⟩
      · exact strKeysR_ok hb x hx
    · cases hb
noncomputable def frameR (o : Option Obj) : Option (List (Option Value)) := match o with
  | some ⟨_, _, .dict es _, _⟩ => match strKeysR es.toList with
    | true => some [nsFind es (Str.ofString "value"), nsFind es (Str.ofString "function"), nsFind es (Str.ofString "it")]
    | false => none
  | _ => none
theorem frameR_ok {o : Option Obj} {a b c : Value} (e : frameR o = some [some a, some b, some c]) : ∃ o' es ep, o = some o' ∧ o'.data = .dict es ep ∧ StrKeys es ∧ nsFind es (Str.ofString "value") = some a ∧ nsFind es (Str.ofString "function") = some b ∧ nsFind es (Str.ofString "it") = some c := by
  unfold frameR at e
  split at e
  · rename_i c dd es ep sl
    split at e
    · rename_i hb
      simp only [Option.some.injEq, List.cons.injEq, and_true] at e
      exact ⟨_, es, ep, rfl, rfl, fun x hx => strKeysR_ok hb x (by simpa using hx), e.1, e.2.1, e.2.2⟩
    · cases e
  · cases e
noncomputable def orcR : List Nat := [0, 1, 1, 1, 1, 1, 1, 0, 0, 1, 2, 2, 2, 3, 1, 1, 1, 0, 0, 0, 1, 3, 3, 3, 3, 3, 2, 3, 3, 1, 1]
/-- the entry, the first two statements -/
noncomputable def redR (D n : Nat) (w : World) (h : Heap) (d : Drawn) (tk : Nat) (os : OsState) (o : Obj) : Option (Env × OS) :=
  match ent (VO KT2 w h n d tk os) [(D, o)] (fdAt w.params 37) 37 ⟨[.builtin "max", .ref D], []⟩ (os0 orcR) with
  | some (env, st2) => match (RO (VO KT2 w h n d tk os) [(D, o)] false 4000 100).1 _ (execsF ((bodyAt w.params 37).take 2) env) st2 with
    | some (.ok .next, st3) => some (env, st3)
    | _ => none
  | none => none
noncomputable abbrev itO (D : Addr) (i : Int) : Obj := ⟨.type "list_iterator", none, .fields #[.ref D, .int i 0], #[]⟩
noncomputable def rdOut (x : Option (Env × OS)) : Option (Env × List Nat × Option Obj × Option (List (Option Value))) := match x with
  | some (env, st) => some (env, st.eqs.map Prod.fst, st.T.get 1, frameR (st.T.get 0))
  | none => none
noncomputable def rdE (x : Option (Env × OS)) : List Nat := match x with
  | some (_, st) => st.eqs.map Prod.snd
  | none => []
structure RdRan (D n : Nat) (w : World) (h : Heap) (d : Drawn) (tk : Nat) (os : OsState) (o : Obj) (a : Int) (ta : Tok) : Prop where
  e : rdOut (redR D n w h d tk os o) = some (envR w.params n, rdE (redR D n w h d tk os o), some (itO D 1), some [some (.int a ta), some (.builtin "max"), some (.ref (n + 1))])
theorem rd_2t (D n : Nat) (w : World) (h : Heap) (d : Drawn) (tk : Nat) (os : OsState) (a b : Int) (ta tb : Tok) (e : Nat) : RdRan D n (pin1 w true) h d tk os (lst [.int a ta, .int b tb] e) a ta := ⟨by kernel_rfl⟩
theorem rd_2f (D n : Nat) (w : World) (h : Heap) (d : Drawn) (tk : Nat) (os : OsState) (a b : Int) (ta tb : Tok) (e : Nat) : RdRan D n (pin1 w false) h d tk os (lst [.int a ta, .int b tb] e) a ta := ⟨by kernel_rfl⟩
theorem rd_3t (D n : Nat) (w : World) (h : Heap) (d : Drawn) (tk : Nat) (os : OsState) (a b c : Int) (ta tb tc : Tok) (e : Nat) : RdRan D n (pin1 w true) h d tk os (lst [.int a ta, .int b tb, .int c tc] e) a ta := ⟨by kernel_rfl⟩
theorem rd_3f (D n : Nat) (w : World) (h : Heap) (d : Drawn) (tk : Nat) (os : OsState) (a b c : Int) (ta tb tc : Tok) (e : Nat) : RdRan D n (pin1 w false) h d tk os (lst [.int a ta, .int b tb, .int c tc] e) a ta := ⟨by kernel_rfl⟩
/-- a walk that is one item further -/
theorem walks_tail {prog : Program} {w : World} {A : Around} {I : Addr} {fp wr : List Addr} {n : Nat} {P : Nat → Value → Prop} {St : Nat → Heap → Prop} (W : Walks prog w A I fp wr (n + 1) P St) : Walks prog w A I fp wr n (fun i => P (i + 1)) (fun i => St (i + 1)) where
  sub := W.sub
  frame := fun i => W.frame (i + 1)
  item := fun i s Q E hi st hQ => W.item (i + 1) s Q E (Nat.succ_lt_succ hi) st hQ
  done := W.done
  self := fun i => W.self (i + 1)
theorem ints_get : ∀ {vs : List Value} {ns : List Int}, IntsAre vs ns → ∀ {i : Nat} {v : Value}, vs[i]? = some v → ∃ t, v = .int (ns.getD i 0) t
  | _, _, .nil, i, v, e => by simp at e
  | _, _, .cons n t h, 0, v, e => by simp at e; subst e; exact ⟨t, rfl⟩
  | _, _, .cons n t h, i + 1, v, e => ints_get h (by simpa using e)
theorem take_fold (ns : List Int) (a : Int) (i : Nat) (hi : i < ns.length) : (ns.take (i + 1)).foldl max a = max ((ns.take i).foldl max a) (ns.getD i 0) := by
  rw [List.take_add_one, List.foldl_append]
  simp [hi]
section
variable {w : World} {A : Around} {s : Shared} {Q E : Value → Shared → Prop}
theorem nm_locR {env : Env} {x : Str} {p : Pos} {v : Value} {m : Str → Option Value} (hk : env.scope.kind = .function) (hx : env.kindOf x = some .local) (hn : s.heap.Ns env.locals m) (hv : m x = some v) (h : Q v s)
    (hb : (x == ("__debug__" : Str)) = false := by decide) : wpAny (model Prg w) A (eval (.Name x p) env) Q E s := wpAny_Name (wpAny_loadName_local hk hx hn hv h) hb
theorem loop_red {h₀ : Heap} {L D : Addr} {m : Str → Option Value} {a : Int} {ta : Tok} {rest : List Value} {ns : List Int} {F₁ : Flow → Shared → Prop} (S : ShR w.params) (F : Fr h₀ L s.heap m) (hv : m (Str.ofString "value") = some (.int a ta)) (hf : m (Str.ofString "function") = some (.builtin "max")) (hi : m (Str.ofString "it") = some (.ref (L + 1)))
    (hit : s.heap.get? (L + 1) = some (itO D 1)) (h0 : h₀.get? (L + 1) = none) (hD : s.heap.IsList D (.int a ta :: rest).toArray) (hDL : D < L) (I : IntsAre rest ns) (hA : A.handled = none)
    (hQ : ∀ h' tk t m', Fr h₀ L h' m' → F₁ (.ret (.int (ns.foldl max a) t)) { s with heap := h', toks := tk }) :
    wpAny (model Prg w) A (execs (lpr (qR w.params)) (envR w.params L)) F₁ (fun _ _ => False) s := by
  have hl := I.length
  refine wpAny_execs_cons (For_inv h₀ (S.el L) (S.hp L) ?_ (S.fs L) PassesOwn.never)
  refine nm_locR (S.kind L) (S.it L) F.ns hi ?_
  have W := walks_tail (n := rest.length) (Walks.list (prog := Prg) (w := w) hA (L + 1) D (Nat.ne_of_lt (Nat.lt_succ_of_lt hDL)) (.int a ta :: rest).toArray)
  have st0 : s.heap.IsListIter (L + 1) D (0 + 1) ∧ s.heap.IsList D (.int a ta :: rest).toArray := ⟨⟨_, hit, rfl, rfl⟩, hD⟩
  refine W.self 0 _ _ _ st0 ?_
  refine ⟨L + 1, [L + 1, D], [L + 1], rest.length, _, _, m, [], fun i m' => (∃ t, m' (Str.ofString "value") = some (.int ((ns.take i).foldl max a) t)) ∧ m' (Str.ofString "function") = some (.builtin "max"), rfl, W, ?_, ?_, fun p hp => (nomatch hp), st0, F, News.nil, ⟨⟨ta, hv⟩, hf⟩, ?_, ?_⟩
  · intro h
    rcases List.mem_cons.mp h with h | h
    · exact absurd h (Nat.ne_of_lt (Nat.lt_succ_self L))
    · exact absurd (List.mem_singleton.mp h) (Nat.ne_of_gt hDL)
  · intro b hb; rw [List.mem_singleton.mp hb]; exact h0
  · rintro i v m₁ s₁ own hi' hp ⟨⟨t, j1⟩, j2⟩ F' N'
    have hp' : rest[i]? = some v := by simpa using hp
    obtain ⟨u, rfl⟩ := ints_get I hp'
    have e1 : (fun y => if y = Str.ofString "element" then some (Value.int (ns.getD i 0) u) else m₁ y) (Str.ofString "value") = some (.int ((ns.take i).foldl max a) t) := by
      show (if Str.ofString "value" = Str.ofString "element" then _ else _) = _
      rw [if_neg (by decide)]; exact j1
    have e2 : (fun y => if y = Str.ofString "element" then some (Value.int (ns.getD i 0) u) else m₁ y) (Str.ofString "function") = some (.builtin "max") := by
      show (if Str.ofString "function" = Str.ofString "element" then _ else _) = _
      rw [if_neg (by decide)]; exact j2
    have e3 : (fun y => if y = Str.ofString "element" then some (Value.int (ns.getD i 0) u) else m₁ y) (Str.ofString "element") = some (.int (ns.getD i 0) u) := by
      show (if Str.ofString "element" = Str.ofString "element" then _ else _) = _
      rw [if_pos rfl]
    refine wpAny_execs_cons (wpAny_Assign_Name (wpAny_Call_NameR (nm_locR (S.kind L) (S.fn L) F'.ns e2 ?_)))
    refine callWith_builtin rfl (evalArgs_plain (spliced_cons (nm_locR (S.kind L) (S.val L) F'.ns e1 (spliced_cons (nm_locR (S.kind L) (S.el L) F'.ns e3 (spliced_nil ?_))))))
    refine max_two_N hA F' N' fun h2 tk2 F2 N2 => ?_
    refine wpAny_storeName_local (S.val L) F2.ns (fun h3 hn3 hs3 => ?_) (S.hp L)
    refine wpAny_execs_nil (LoopStep.intro (F2.set hn3 hs3) (N2.set hs3) ⟨⟨(if ns.getD i 0 > (ns.take i).foldl max a then u else t), ?_⟩, ?_⟩)
    · show (if Str.ofString "value" = Str.ofString "value" then _ else _) = _
      have em : (if ns.getD i 0 > (ns.take i).foldl max a then ns.getD i 0 else (ns.take i).foldl max a) = max ((ns.take i).foldl max a) (ns.getD i 0) := by
        rw [Int.max_def]
        split <;> split <;> omega
      rw [if_pos rfl, take_fold ns a i (by omega), em]
    · show (if Str.ofString "function" = Str.ofString "value" then _ else _) = _
      rw [if_neg (by decide)]; exact e2
  · rintro h' tk' m' F' _ ⟨⟨t, j1⟩, _⟩
    rw [hl, List.take_length] at j1
    exact wpAny_execs_cons (wpAny_Return_some (nm_locR (S.kind L) (S.val L) F'.ns j1 (hQ h' tk' t m' F')))
theorem vo_okR {kt : Params → KT} {w : World} {h : Heap} {n : Nat} {d : Drawn} {tk : Nat} {os : OsState} (hn : h.objs.size = n) (hk : KH (kt w.params) h) : (VO kt w h n d tk os).Ok := ⟨hn, hk.k, fun _ _ q => (nomatch q)⟩
theorem rd_out {x : Option (Env × OS)} {env : Env} {it : Option Obj} {f : Option (List (Option Value))} (e : rdOut x = some (env, rdE x, it, f)) : ∃ st, x = some (env, st) ∧ EqOk st.eqs ∧ st.T.get 1 = it ∧ frameR (st.T.get 0) = f := by
  cases x with
  | none => cases e
  | some y =>
    obtain ⟨env', st⟩ := y
    simp only [rdOut, rdE, Option.some.injEq, Prod.mk.injEq] at e
    obtain ⟨rfl, e1, e2, e3⟩ := e
    exact ⟨st, rfl, eq_of_maps e1, e2, e3⟩
theorem red_split {D n : Nat} {w : World} {h : Heap} {d : Drawn} {tk : Nat} {os : OsState} {o : Obj} {env : Env} {st : OS} (e : redR D n w h d tk os o = some (env, st)) :
    ∃ st2, ent (VO KT2 w h n d tk os) [(D, o)] (fdAt w.params 37) 37 ⟨[.builtin "max", .ref D], []⟩ (os0 orcR) = some (env, st2) ∧ (RO (VO KT2 w h n d tk os) [(D, o)] false 4000 100).1 _ (execsF ((bodyAt w.params 37).take 2) env) st2 = some (.ok .next, st) := by
  unfold redR at e
  split at e
  · rename_i env' st2 e1
    split at e
    · rename_i st3 e2
      cases e
      exact ⟨st2, e1, e2⟩
    · cases e
  · cases e
theorem red_run {h : Heap} {g : Array GenState} {d : Drawn} {tk : Nat} {os : OsState} {D : Addr} {a : Int} {ta : Tok} {rest : List Value} {ns : List Int} {e : Nat} (Z : RdRan D h.objs.size w h d tk os (lst (.int a ta :: rest) e) a ta) (X : (K2 w.params).In h) (hl : h.NoLimit)
    (hD : h.get? D = some (lst (.int a ta :: rest) e)) (I : IntsAre rest ns) (hA : A.handled = none) (hd : A.depth + 101 ≤ recursionLimit) (hQ : ∀ h' tk t, Ext h h' → Q (.int (ns.foldl max a) t) ⟨h', g, d, tk, os⟩) :
    wpAny (model Prg w) A (call (.ref 37) [.builtin "max", .ref D]) Q E ⟨h, g, d, tk, os⟩ := by
  obtain ⟨st, ee, he, e1, e0⟩ := rd_out Z.e
  obtain ⟨st2, ea, eb⟩ := red_split ee
  have K := kh2 X
  have R := rdAt w.params
  have S := shR w.params
  have O := vo_okR (kt := KT2) (w := w) (d := d) (tk := tk) (os := os) rfl K
  have H : OldsIn h [(D, lst (.int a ta :: rest) e)] := by
    intro q hq
    rcases List.mem_cons.mp hq with rfl | hq
    · exact hD
    · cases hq
  refine wpAny_call ?_
  refine ent_stmts O H hl (st := os0 orcR) (g := g) ea (kh_at' K R.obj) R.data R.co R.gen R.body ⟨36, _, _, _, R.code, kh_at' K R.cobj, R.cdat, R.name⟩ hA hd (Rep.start O) ((RO_eq _ _ false 4000 100).1 _ _ _ _ _ eb he) fun h1 D1 => ?_
  rw [← List.take_append_drop 2 (bodyAt w.params 37)]
  refine wpAny_execs_append ?_
  rw [execsF_eq]
  refine (RO_sound O H hl false g 4000 100).1 _ _ _ _ _ eb h1 (A.deeper (envR w.params h.objs.size)) _ _ hA (by show A.depth + 1 + 100 ≤ _; omega) D1 he fun h2 D2 => ?_
  show wpAny _ _ (execsF ((bodyAt w.params 37).drop 2) _) _ _ _
  rw [← execsF_eq, S.eq]
  obtain ⟨o', es, ep, q1, q2, q3, q4, q5, q6⟩ := frameR_ok e0
  have kp : Ext h h2 := fun b o q => D2.keep b o q rfl
  have F : Fr h h.objs.size h2 (fun z => nsFind es z) := ⟨⟨o', es, ep, (D2.own 0 _ q1).2, q2, q3, fun _ => rfl⟩, kp, Nat.le_refl _⟩
  exact loop_red (s := ⟨h2, g, d, tk + st.i, os⟩) (D := D) S F q4 q5 q6 (D2.own 1 _ e1).2 (Heap.get?_none_of_le (Nat.le_succ _)) ⟨_, kp _ _ hD, rfl, e, rfl⟩ (Heap.lt_size hD) I hA fun h' tk' t m' F' => hQ h' tk' t F'.keep
end
theorem red2 : ∀ (w : World) (s : Shared) (a b : Int) (ta tb : Tok) (D : Addr) (n : Nat) (Q E : Value → Shared → Prop)
  (X : (K2 w.params).In s.heap) (hl : s.heap.NoLimit) (hD : s.heap.get? D = some ⟨.type "list", none, .seq ⟨[.int a ta, .int b tb]⟩ n, #[]⟩)
  (hQ : ∀ h' tk t, Ext s.heap h' → Q (.int (max a b) t) ⟨h', s.gens, s.drawn, tk, s.os⟩),
  wpAny (model PySem.Challenge.rw_mr0055_01.prog w) (Ar 800 8000) (call (.ref 37) [.builtin "max", .ref D]) Q E s := by
  refine by2 ?_
  intro bb w s a b ta tb D n Q E X hl hD hQ
  obtain ⟨h, g, d, tk, os⟩ := s
  have hr : (1000 : Nat) = recursionLimit := rfl
  refine red_run (ns := [b]) ?_ X hl hD (.cons b tb .nil) rfl (by show 800 + 101 ≤ _; omega) hQ
  cases bb
  · exact rd_2f D h.objs.size w h d tk os a b ta tb n
  · exact rd_2t D h.objs.size w h d tk os a b ta tb n
theorem red3 : ∀ (w : World) (s : Shared) (a b c : Int) (ta tb tc : Tok) (D : Addr) (n : Nat) (Q E : Value → Shared → Prop)
  (X : (K2 w.params).In s.heap) (hl : s.heap.NoLimit) (hD : s.heap.get? D = some ⟨.type "list", none, .seq ⟨[.int a ta, .int b tb, .int c tc]⟩ n, #[]⟩)
  (hQ : ∀ h' tk t, Ext s.heap h' → Q (.int (max (max a b) c) t) ⟨h', s.gens, s.drawn, tk, s.os⟩),
  wpAny (model PySem.Challenge.rw_mr0055_01.prog w) (Ar 800 8000) (call (.ref 37) [.builtin "max", .ref D]) Q E s := by
  refine by2 ?_
  intro bb w s a b c ta tb tc D n Q E X hl hD hQ
  obtain ⟨h, g, d, tk, os⟩ := s
  have hr : (1000 : Nat) = recursionLimit := rfl
  refine red_run (ns := [b, c]) ?_ X hl hD (.cons b tb (.cons c tc .nil)) rfl (by show 800 + 101 ≤ _; omega) hQ
  cases bb
  · exact rd_3f D h.objs.size w h d tk os a b c ta tb tc n
  · exact rd_3t D h.objs.size w h d tk os a b c ta tb tc n
end Mine
end
section -- MSize
namespace Mine
set_option maxRecDepth 100000
set_option maxHeartbeats 4000000
local macro_rules | `(tactic| walk_at "call ref") => `(tactic| (k_here; (with_reducible show wpAny _ _ (call (Value.ref 21) [Value.int _ _]) _ _ _); k_dflt (refine' hb_at ?F ?N ?X ?T ?h ?d ?u ?_; (case F => k_asm); (case N => k_asm); (case X => k_asm); (case T => k_asm); (case h => exact rfl); (case d => exact Nat.le_of_ble_eq_true rfl); (case u => exact Nat.le_of_ble_eq_true rfl); k_whole); intro h' tk' t' F' N'))
noncomputable def hbx (n1 n2 : List Int) (k : Nat) : Int := hbF (Builtin.bitXor (n1.getD k 0) (n2.getD k 0))
noncomputable def szF (n1 n2 : List Int) (ax : Int) : Int := if ax = 2 then max (hbx n1 n2 0) (hbx n1 n2 1) else max (max (hbx n1 n2 0) (hbx n1 n2 1)) (hbx n1 n2 2)
theorem red_end {w : World} {A : Around} {s₀ h : Heap} {g d tk os} {L : Addr} {m : Str → Option Value} {news : List (Addr × Obj)} {n1 n2 : List Int} {ax : Int} {D : Addr} {ys : List Value} {Q : Value → Shared → Prop} {E}
    (X2 : (K2 w.params).In s₀) (HL : s₀.NoLimit) (F : Fr s₀ L h m) (N : News s₀ L h ((D, LCg.lst ys) :: news))
    (hI : IntsAre ys (List.map (fun k' => hbF (Builtin.bitXor (n1.getD k'.toNat 0) (n2.getD k'.toNat 0))) (rangeKs 0 (ax - 0).toNat)))
    (e3 : 2 ≤ ax) (e4 : ax ≤ 3) (ha : A.handled = none) (hd : A.depth ≤ 800) (hu : A.units ≤ 8000)
    (hQ : ∀ h' tk t, Ext s₀ h' → Q (.int (szF n1 n2 ax) t) ⟨h', g, d, tk, os⟩) :
    wpAny (model PySem.Challenge.rw_mr0055_01.prog w) A (call (.ref 37) [.builtin "max", .ref D]) Q E ⟨h, g, d, tk, os⟩ := by
  have hD := (N _ (.head _)).1
  have X : (K2 w.params).In h := fun a o e => F.keep _ _ (X2 a o e)
  have HL' : h.NoLimit := HL.keeps F.keep
  have hax : ax = 2 ∨ ax = 3 := by omega
  rcases hax with rfl | rfl
  · have e : (rangeKs 0 ((2 : Int) - 0).toNat) = [0, 1] := by decide
    rw [e] at hI
    simp only [List.map_cons, List.map_nil] at hI
    cases hI with
    | cons a ta hI => cases hI with
      | cons b tb hI => cases hI
                        exact weaken ha hd hu (red2 w ⟨h, g, d, tk, os⟩ _ _ ta tb D _ Q E X HL' hD fun h' tk t k => hQ h' tk t fun b o e => k _ _ (F.keep _ _ e))
  · have e : (rangeKs 0 ((3 : Int) - 0).toNat) = [0, 1, 2] := by decide
    rw [e] at hI
    simp only [List.map_cons, List.map_nil] at hI
    cases hI with
    | cons a ta hI => cases hI with
      | cons b tb hI => cases hI with
        | cons c tc hI => cases hI
                          exact weaken ha hd hu (red3 w ⟨h, g, d, tk, os⟩ _ _ _ ta tb tc D _ Q E X HL' hD fun h' tk t k => hQ h' tk t fun b o e => k _ _ (F.keep _ _ e))
theorem size_code (w : World) (p : Program) (loose : List Str) (mean : ExcName → Option Value) (mg mb : Str → Option Value) (s : Shared) (l1 l2 : Addr) (v1 v2 : List Value) (n1 n2 : List Int) (ax : Int) (tx : Tok) (Q E)
    (X : (Mine.hk.heap_39 w.params).In s.heap) (T : Top p loose mean mg mb s.heap) (X2 : (K2 w.params).In s.heap)
    (a1 : s.heap.IsList l1 v1.toArray) (a2 : s.heap.IsList l2 v2.toArray)
    (i1 : IntsAre v1 n1) (i2 : IntsAre v2 n2) (e1 : ax < n1.length) (e2 : ax < n2.length) (e3 : 2 ≤ ax) (e4 : ax ≤ 3)
    (hQ : ∀ h' tk t, Ext s.heap h' → Q (.int (szF n1 n2 ax) t) { s with heap := h', toks := tk }) :
    wpAny (model PySem.Challenge.rw_mr0055_01.prog w) (Ar 700 6000) (call (.ref 49) [.ref l1, .ref l2, .int ax tx]) Q E s := by
  revert X; k_fill; intro X
  refine wpAny_call ?_
  k_dflt (refine' enterC X T.nolimit ?k6 ?k7 ?k8 ?k9 ?kB ?kD ?_ ?c2 ?c3 ?c4; (case k6 => k_is); (case k7 => k_is); (case k8 => decide); (case k9 => exact BindsTo.of_eq rfl); (case kB => exact rfl); (case kD => decide +kernel); (case c2 => exact rfl); (case c3 => exact rfl); (case c4 => exact rfl))
  intro L' h' tk' cells' F' N' Y'
  k_cells Y'
  (try simp only [List.cons_append, List.nil_append] at N')
  dsimp only
  try k_fold
  k_steps
  all_goals (rename Fr _ _ _ _ => F9; rename News _ _ _ _ => N9; rename IntsAre _ (List.map _ _) => I9)
  all_goals exact red_end X2 T.nolimit F9 N9 I9 e3 e4 rfl (Nat.le_of_ble_eq_true rfl) (Nat.le_of_ble_eq_true rfl) hQ
end Mine
end
section -- MPart
namespace Mine
section
variable {prog : Program} {w : World} {A : Around} {E : Value → Shared → Prop} {s : Shared}
theorem str_at {value slice : PySem.Expr} {x : Str} {t u : Tok} {i : Nat} {c : Nat} {Q : Value → Shared → Prop} (hi : i < 4096) (hc : x.cps[i]? = some c) (h : Q (.str ⟨#[c]⟩ s.toks) { s with toks := s.toks + 1 })
    (hs : subscripted slice false (.str x t) (.int (i : Int) u) = operate [.str x t, .int (i : Int) u] (getItem (.str x t) (.int (i : Int) u)) := by with_unfolding_all rfl) :
    wpAny (model prog w) A (subscriptTail value slice (.str x t) (.int (i : Int) u)) Q E s := by
  have hl : i < x.cps.size := by
    obtain ⟨q, _⟩ := Array.getElem?_eq_some_iff.mp hc; exact q
  refine tail_any (typeIs_str s x t) PySem.F.slot_str_getitem.lookup (PySem.P.getItem_str ?_ ?_ h) hs
  · simp only [Bool.or_eq_false_iff, decide_eq_false_iff_not]; omega
  · have : seqIndex? (i : Int) x.length = some i := by
      unfold seqIndex?
      have hx : x.length = x.cps.size := rfl
      simp only [hx]
      (repeat' split) <;> first | omega | (simp; omega) | simp_all
    rw [this]; exact hc
end
noncomputable def dfs (x y : List Nat) (n : Nat) : List Int := ((List.range n).filter fun j => x.getD j 0 != y.getD j 0).map fun j => ((j : Nat) : Int)
theorem dfs_succ (x y : List Nat) (n : Nat) : dfs x y (n + 1) = dfs x y n ++ (if x.getD n 0 != y.getD n 0 then [(n : Int)] else []) := by
  unfold dfs
  rw [List.range_succ, List.filter_append, List.map_append]
  congr 1
  simp only [List.filter_cons, List.filter_nil]
  split <;> simp_all
section
variable {prog : Program} {w : World} {A : Around} {s : Shared} {h₀ : Heap} {L : Addr} {m : Str → Option Value} {env : Env} {scope : Scope} {cl : List (Str × Addr)} {news : List (Addr × Obj)} {Fin : List Value → List (Addr × Obj) → Prop}
theorem part_rest {x y : Str} {tx ty : Tok} {p1 p2 p3 p4 p5 p6 p7 p8 : Pos} {c1 c2 : Addr} {o1 o2 : Obj} {n : Nat}
    (l1 : cl.lookup (Str.ofString "one") = some c1) (l2 : cl.lookup (Str.ofString "two") = some c2) (m1 : (c1, o1) ∈ news) (m2 : (c2, o2) ∈ news) (d1 : o1.data = .cell (some (.str x tx))) (d2 : o2.data = .cell (some (.str y ty)))
    (hk : scope.kind = .function) (k1 : ∀ C, (compEnvC scope cl C env).kindOf (Str.ofString "one") = some .cell) (k2 : ∀ C, (compEnvC scope cl C env).kindOf (Str.ofString "two") = some .cell) (k3 : ∀ C, (compEnvC scope cl C env).kindOf (Str.ofString "k") = some .local)
    (hx : x.cps.size = n) (hy : y.cps.size = n) (hn : n ≤ 12)
    (hF : ∀ ys, IntsAre ys (dfs x.cps.toList y.cps.toList n) → Fin ys news) :
    LCt.CompRestT prog w A h₀ L m env (.Compare (.Subscript (.Name (Str.ofString "one") p1) (.Name (Str.ofString "k") p2) p3) [.NotEq] [.Subscript (.Name (Str.ofString "two") p4) (.Name (Str.ofString "k") p5) p6] p7) (.Name (Str.ofString "k") p8) (Str.ofString "k") scope cl s (fun _ => True)
      (fun i v => ∃ t, v = .int (0 + (i : Int)) t) Fin n 0 [] news := by
  have main : ∀ (k i : Nat) (ys : List Value), i + k = n → IntsAre ys (dfs x.cps.toList y.cps.toList i) →
      LCt.CompRestT prog w A h₀ L m env (.Compare (.Subscript (.Name (Str.ofString "one") p1) (.Name (Str.ofString "k") p2) p3) [.NotEq] [.Subscript (.Name (Str.ofString "two") p4) (.Name (Str.ofString "k") p5) p6] p7) (.Name (Str.ofString "k") p8) (Str.ofString "k") scope cl s (fun _ => True)
        (fun i v => ∃ t, v = .int (0 + (i : Int)) t) Fin k i ys news := by
    intro k
    induction k with
    | zero =>
      intro i ys hi hI
      have : i = n := by omega
      subst this
      exact LCt.CompRestT.zero (hF ys hI)
    | succ k ih =>
      intro i ys hi hI
      refine LCt.CompRestT.succ ?_
      rintro v I oI C oC D m₂ h tk E' ⟨t, rfl⟩ hN hm F N O3 hne
      rw [Int.zero_add] at hm
      have i1 : i < x.cps.size := by omega
      have i2 : i < y.cps.size := by omega
      have g1 : x.cps[i]? = some x.cps[i] := by simp [i1]
      have g2 : y.cps[i]? = some y.cps[i] := by simp [i2]
      have q1 : x.cps.toList.getD i 0 = x.cps[i] := by simp [List.getD, i1]
      have q2 : y.cps.toList.getD i 0 = y.cps[i] := by simp [List.getD, i2]
      have M1 : (c1, o1) ∈ (I, oI) :: (C, oC) :: (D, LCg.lst ys) :: news := .tail _ (.tail _ (.tail _ m1))
      have M2 : (c2, o2) ∈ (I, oI) :: (C, oC) :: (D, LCg.lst ys) :: news := .tail _ (.tail _ (.tail _ m2))
      have MC : (C, oC) ∈ (I, oI) :: (C, oC) :: (D, LCg.lst ys) :: news := .tail _ (.head _)
      refine wpAny_isTrue_Compare1 ?_ rfl
      refine Subscript_ ?_
      refine lcf_cell N l1 M1 d1 ?_ hk (k1 C)
      refine LCgL.ld_own N MC hN hm ?_ hk (k3 C)
      refine str_at (by omega) g1 ?_
      refine Subscript_ ?_
      refine lcf_cell N l2 M2 d2 ?_ hk (k2 C)
      refine LCgL.ld_own N MC hN hm ?_ hk (k3 C)
      refine str_at (by omega) g2 ?_
      refine PySem.P.ne_str ?_
      refine wpAny_truthy_bool ?_
      have e := dfs_succ x.cps.toList y.cps.toList i
      rw [q1, q2] at e
      split
      · rename_i hb
        refine LCgL.ld_own N MC hN hm ?_ hk (k3 C)
        refine LCg.CompEnd.intro F N news (fun p hp => hp) O3 trivial (ih (i + 1) _ (by omega) ?_)
        rw [e, if_pos (by simpa using hb)]
        exact ksk_snoc hI
      · rename_i hb
        refine LCg.CompEnd.intro F N news (fun p hp => hp) O3 trivial (ih (i + 1) _ (by omega) ?_)
        rw [e, if_neg (by simpa using hb), List.append_nil]
        exact hI
  exact main n 0 [] (by omega) (by unfold dfs; exact .nil)
end
set_option maxRecDepth 100000
set_option maxHeartbeats 4000000
noncomputable def partF (x y : List Nat) (n : Nat) (ax : Int) : Int := match dfs x y n with
  | [] => -1
  | j :: _ => 3 - Int.fdiv j ax
theorem part_code (w : World) (p : Program) (loose : List Str) (mean : ExcName → Option Value) (mg mb : Str → Option Value) (s : Shared) (x y : Str) (tx ty : Tok) (ax : Int) (ta : Tok) (n : Nat) (Q E)
    (X : (Mine.hk.heap_39 w.params).In s.heap) (T : Top p loose mean mg mb s.heap)
    (e1 : x.cps.size = n) (e0 : y.cps.size = n) (e2 : n ≤ 12) (e3 : 2 ≤ ax) (e4 : ax ≤ 3)
    (hQ : ∀ h' tk t, Ext s.heap h' → Q (.int (partF x.cps.toList y.cps.toList n ax) t) { s with heap := h', toks := tk }) :
    wpAny (model PySem.Challenge.rw_mr0055_01.prog w) (Ar 700 6000) (call (.ref 59) [.str x tx, .str y ty, .int ax ta]) Q E s := by
  revert X; k_fill; intro X
  have el : x.length = n := e1
  refine wpAny_call ?_
  k_dflt (refine' enterC X T.nolimit ?k6 ?k7 ?k8 ?k9 ?kB ?kD ?_ ?c2 ?c3 ?c4; (case k6 => k_is); (case k7 => k_is); (case k8 => decide); (case k9 => exact BindsTo.of_eq rfl); (case kB => exact rfl); (case kD => decide +kernel); (case c2 => exact rfl); (case c3 => exact rfl); (case c4 => exact rfl))
  intro L' h' tk' cells' F' N' Y'
  k_cells Y'
  (try simp only [List.cons_append, List.nil_append] at N')
  dsimp only
  try k_fold
  refine wpAny_execs_cons ?_
  k_dflt (refine' LCt.Assign_ListComp_T F' rfl ?a1 ?a2 ?a3 ?a4 ?a5 ?a6 ?a7 ?a8 ?_; (case a1 => with_unfolding_all rfl); (case a2 => with_unfolding_all rfl); (case a3 => decide); (case a4 => rfl); (case a5 => decide); (case a6 => rfl); (case a7 => rfl); (case a8 => rfl))
  k_steps
  rename IsRange _ _ _ _ _ _ _ _ => R9
  rename News _ _ _ _ => N9
  rename Fr _ _ _ _ => F9
  rw [el] at R9
  refine LCt.CompSrcT.range (n := n) rfl F9 N9 R9 ?s1 ?s2 ?s3 ?_
  case s1 => exact small_one (by omega) (by omega) (by omega) (by omega)
  case s2 => unfold Builtin.Range.rangeSize; (repeat' split) <;> omega
  case s3 => show n ≤ sizeLine; unfold sizeLine; omega
  intro g
  refine part_rest (tx := tx) (ty := ty) (by rfl) (by rfl) (.tail _ (.head _)) (.head _) ?q1 ?q2 rfl (fun _ => rfl) (fun _ => rfl) (fun _ => rfl) e1 e0 e2 ?_
  case q1 => rename (_ = Data.cell (bindC _ _ _ (Str.ofString "one"))) => d9; exact d9.trans rfl
  case q2 => rename (_ = Data.cell (bindC _ _ _ (Str.ofString "two"))) => d9; exact d9.trans rfl
  intro ys hI D h tk F N O
  dsimp only
  generalize hd : dfs x.cps.toList y.cps.toList n = l at hI
  cases hI with
  | nil =>
    have ev : partF x.cps.toList y.cps.toList n ax = -1 := by unfold partF; rw [hd]
    rw [ev] at hQ
    k_steps
    all_goals (rename Fr _ _ _ _ => F8; exact hQ _ _ _ F8.keep)
  | cons j tj hI =>
    rename_i ns
    have ev : partF x.cps.toList y.cps.toList n ax = 3 - ((j :: ns).getD (Int.toNat 0) 0).fdiv ax := by unfold partF; rw [hd]; rfl
    rw [ev] at hQ
    k_steps
    all_goals first
      | (rename Fr _ _ _ _ => F8; exact hQ _ _ _ F8.keep)
      | (exfalso; simp_all; done)
      | trace_state
end Mine
end
section -- MTextB
set_option linter.constructorNameAsVariable false
namespace Mine
theorem text2_code : ∀ (w : World) (s : Shared) (D T : Addr) (a b p u v : Int) (ta tb tp tu tv : Tok) (n1 n2 : Nat) (A : Around) (Q : Value → Shared → Prop) (E : Value → Shared → Prop)
    (_ : Kn w s.heap) (_ : s.heap.get? D = some (lst [.int a ta, .int b tb, .int p tp] n1)) (_ : s.heap.get? T = some (lst [.int u tu, .int v tv] n2)) (_ : A.handled = none) (_ : A.depth + 100 ≤ recursionLimit)
    (_ : ∀ h' tk t, Ext s.heap h' → Q (.str (tx2S a b u v) t) ⟨h', s.gens, s.drawn, tk, s.os⟩),
    wpAny (model Prg w) A (call (.ref 54) [.ref D, .ref T]) Q E s := by
  refine by4 ?_
  intro b' c' w s D T a b p u v ta tb tp tu tv n1 n2 A Q E K hD hT hA hd hQ
  obtain ⟨h, g, d, tk, os⟩ := s
  refine wpAny_call ?_
  refine (tx2_all b' c' w h d tk os D T h.objs.size a b p u v ta tb tp tu tv n1 n2).code rfl K.kt ?_ K.lim hA hd (fun h' tk' X => hQ h' tk' _ X)
  intro q hq
  rcases List.mem_cons.mp hq with rfl | hq
  · exact hD
  · rcases List.mem_cons.mp hq with rfl | hq
    · exact hT
    · cases hq
theorem text3_code : ∀ (w : World) (s : Shared) (D T : Addr) (a b c p u v x : Int) (ta tb tc tp tu tv tx : Tok) (n1 n2 : Nat) (A : Around) (Q : Value → Shared → Prop) (E : Value → Shared → Prop)
    (_ : Kn w s.heap) (_ : s.heap.get? D = some (lst [.int a ta, .int b tb, .int c tc, .int p tp] n1)) (_ : s.heap.get? T = some (lst [.int u tu, .int v tv, .int x tx] n2)) (_ : A.handled = none) (_ : A.depth + 100 ≤ recursionLimit)
    (_ : ∀ h' tk t, Ext s.heap h' → Q (.str (tx3S a b c u v x) t) ⟨h', s.gens, s.drawn, tk, s.os⟩),
    wpAny (model Prg w) A (call (.ref 54) [.ref D, .ref T]) Q E s := by
  refine by4 ?_
  intro b' c' w s D T a b c p u v x ta tb tc tp tu tv tx n1 n2 A Q E K hD hT hA hd hQ
  obtain ⟨h, g, d, tk, os⟩ := s
  refine wpAny_call ?_
  refine (tx3_all b' c' w h d tk os D T h.objs.size a b c p u v x ta tb tc tp tu tv tx n1 n2).code rfl K.kt ?_ K.lim hA hd (fun h' tk' X => hQ h' tk' _ X)
  intro q hq
  rcases List.mem_cons.mp hq with rfl | hq
  · exact hD
  · rcases List.mem_cons.mp hq with rfl | hq
    · exact hT
    · cases hq
end Mine
end
section -- MBs
set_option maxRecDepth 100000
set_option linter.constructorNameAsVariable false
namespace Mine
/-- what the defs' contracts want of a heap, sealed -/
structure Bs (w : World) (h : Heap) : Prop where
  kn : Kn w h
  x40 : (Mine.hk.heap_39 w.params).In h
  x2 : (K2 w.params).In h
  top : ∃ p loose mean mg mb, Top p loose mean mg mb h
theorem Bs.keeps {w : World} {h h' : Heap} (B : Bs w h) (x : Ext h h') : Bs w h' := by
  obtain ⟨kn, x40, x2, p, loose, mean, mg, mb, T⟩ := B
  exact ⟨kn.keeps x, fun a o e => x _ _ (x40 a o e), fun a o e => x _ _ (x2 a o e), p, loose, mean, mg, mb, T.keeps x⟩
section
variable {w : World} {s : Shared} {A : Around} {Q : Value → Shared → Prop} {E : Value → Shared → Prop}
theorem turn_at (B : Bs w s.heap) {l1 l2 l3 : Addr} {v1 v2 v3 : List Value} {n1 n2 n3 : List Int} (a1 : s.heap.IsList l1 v1.toArray) (a2 : s.heap.IsList l2 v2.toArray) (a3 : s.heap.IsList l3 v3.toArray)
    (i1 : IntsAre v1 n1) (i2 : IntsAre v2 n2) (i3 : IntsAre v3 n3) (e1 : n3.length < n1.length) (e2 : n3.length < n2.length) (e3 : n3.length ≤ 3) (hA : A.handled = none) (hd : A.depth ≤ 700) (hu : A.units ≤ 6000)
    (hQ : ∀ h' tk t, Ext s.heap h' → Q (.int (turnF n1 n2 n3) t) { s with heap := h', toks := tk }) :
    wpAny (model Prg w) A (call (.ref 44) [.ref l1, .ref l2, .ref l3]) Q E s := by
  obtain ⟨_, x40, _, p, loose, mean, mg, mb, T⟩ := B
  exact weaken hA hd hu (turn_code w p loose mean mg mb s l1 l2 l3 v1 v2 v3 n1 n2 n3 Q E x40 T a1 a2 a3 i1 i2 i3 e1 e2 e3 hQ)
theorem size_at (B : Bs w s.heap) {l1 l2 : Addr} {v1 v2 : List Value} {n1 n2 : List Int} {ax : Int} {tx : Tok} (a1 : s.heap.IsList l1 v1.toArray) (a2 : s.heap.IsList l2 v2.toArray)
    (i1 : IntsAre v1 n1) (i2 : IntsAre v2 n2) (e1 : ax < n1.length) (e2 : ax < n2.length) (e3 : 2 ≤ ax) (e4 : ax ≤ 3) (hA : A.handled = none) (hd : A.depth ≤ 700) (hu : A.units ≤ 6000)
    (hQ : ∀ h' tk t, Ext s.heap h' → Q (.int (szF n1 n2 ax) t) { s with heap := h', toks := tk }) :
    wpAny (model Prg w) A (call (.ref 49) [.ref l1, .ref l2, .int ax tx]) Q E s := by
  obtain ⟨_, x40, x2, p, loose, mean, mg, mb, T⟩ := B
  exact weaken hA hd hu (size_code w p loose mean mg mb s l1 l2 v1 v2 n1 n2 ax tx Q E x40 T x2 a1 a2 i1 i2 e1 e2 e3 e4 hQ)
theorem part_at (B : Bs w s.heap) {x y : Str} {tx ty : Tok} {ax : Int} {ta : Tok} {n : Nat} (e1 : x.cps.size = n) (e0 : y.cps.size = n) (e2 : n ≤ 12) (e3 : 2 ≤ ax) (e4 : ax ≤ 3) (hA : A.handled = none) (hd : A.depth ≤ 700) (hu : A.units ≤ 6000)
    (hQ : ∀ h' tk t, Ext s.heap h' → Q (.int (partF x.cps.toList y.cps.toList n ax) t) { s with heap := h', toks := tk }) :
    wpAny (model Prg w) A (call (.ref 59) [.str x tx, .str y ty, .int ax ta]) Q E s := by
  obtain ⟨_, x40, _, p, loose, mean, mg, mb, T⟩ := B
  exact weaken hA hd hu (part_code w p loose mean mg mb s x y tx ty ax ta n Q E x40 T e1 e0 e2 e3 e4 hQ)
end
/-- an int list of the heap -/
structure ILs (h : Heap) (a : Addr) (ns : List Int) : Prop where
  ex : ∃ vs e, h.get? a = some (lst vs e) ∧ IntsAre vs ns
theorem ILs.keeps {h h' : Heap} {a : Addr} {ns : List Int} (x : ILs h a ns) (k : Ext h h') : ILs h' a ns := by
  obtain ⟨vs, e, g, i⟩ := x
  exact ⟨vs, e, k _ _ g, i⟩
theorem ILs.lst {h : Heap} {a : Addr} {ns : List Int} (x : ILs h a ns) : ∃ vs : List Value, h.IsList a vs.toArray ∧ IntsAre vs ns := by
  obtain ⟨vs, e, g, i⟩ := x
  exact ⟨vs, ⟨_, g, rfl, _, rfl⟩, i⟩
noncomputable def IntsO (o : Obj) (ns : List Int) : Prop := ∃ vs e, o = lst vs e ∧ IntsAre vs ns
/-- what _law_text tells of a point -/
noncomputable def TextO (w : World) (a : Addr) (o u : Obj) (x : Str) : Prop := ∀ (s : Shared) (A : Around) (Q E : Value → Shared → Prop), Kn w s.heap → s.heap.get? a = some o → s.heap.get? 76 = some u → A.handled = none → A.depth + 100 ≤ recursionLimit →
  (∀ h' tk t, Ext s.heap h' → Q (.str x t) { s with heap := h', toks := tk }) → wpAny (model Prg w) A (call (.ref 54) [.ref a, .ref 76]) Q E s
/-- law's points and what law has of them, sealed -/
structure Pb (w : World) (h : Heap) (n ax : Nat) (P : Nat → List Int) (U : List Int) (tx : Nat → Str) : Prop where
  base : ∃ g, Bs w g ∧ Ext g h ∧ (∀ a, 66 ≤ a → g.get? a = none) ∧ g.get? 61 = none ∧ g.get? 23 = none
  dat : ∃ (po : Nat → Obj) (uo : Obj), (∀ j, j < n → h.get? (100 + 12 * j) = some (po j)) ∧ h.get? 76 = some uo ∧ (∀ j, j < n → IntsO (po j) (P j)) ∧ IntsO uo U ∧ ∀ j, j < n → TextO w (100 + 12 * j) (po j) uo (tx j)
  c68 : ∃ t, h.get? 68 = some (celO (.int (ax : Int) t))
  c71 : h.get? 71 = some (celO (.ref 76))
  l86 : h.get? 86 = some (lst (refs n) n)
section
variable {w : World} {h h' : Heap} {n ax : Nat} {P : Nat → List Int} {U : List Int} {tx : Nat → Str}
theorem Pb.bs (B : Pb w h n ax P U tx) : Bs w h := let ⟨_, b, x, _⟩ := B.base; b.keeps x
theorem Pb.pt (B : Pb w h n ax P U tx) (j : Nat) (hj : j < n) : ILs h (100 + 12 * j) (P j) := by
  obtain ⟨po, uo, a, b, c, d, e⟩ := B.dat
  obtain ⟨vs, m, e1, i⟩ := c j hj
  exact ⟨vs, m, e1 ▸ a j hj, i⟩
theorem Pb.tu (B : Pb w h n ax P U tx) : ILs h 76 U := by
  obtain ⟨po, uo, a, b, c, ⟨vs, m, e1, i⟩, e⟩ := B.dat
  exact ⟨vs, m, e1 ▸ b, i⟩
theorem Pb.text (B : Pb w h n ax P U tx) (j : Nat) (hj : j < n) (s : Shared) (A : Around) (Q E : Value → Shared → Prop) (k : Ext h s.heap) (hA : A.handled = none) (hd : A.depth + 100 ≤ recursionLimit)
    (hQ : ∀ h' tk t, Ext s.heap h' → Q (.str (tx j) t) { s with heap := h', toks := tk }) : wpAny (model Prg w) A (call (.ref 54) [.ref (100 + 12 * j), .ref 76]) Q E s := by
  obtain ⟨po, uo, a, b, c, d, e⟩ := B.dat
  exact e j hj s A Q E (B.bs.keeps k).kn (k _ _ (a j hj)) (k _ _ b) hA hd hQ
/-- an address that may change -/
noncomputable def Free (n a : Nat) : Prop := a = 61 ∨ a = 23 ∨ (66 ≤ a ∧ a ≠ 68 ∧ a ≠ 71 ∧ a ≠ 76 ∧ a ≠ 86 ∧ ∀ j, j < n → a ≠ 100 + 12 * j)
theorem Pb.buts (B : Pb w h n ax P U tx) {l : List Addr} (hl : ∀ a ∈ l, Free n a) (x : ∀ b o, b ∉ l → h.get? b = some o → h'.get? b = some o) : Pb w h' n ax P U tx := by
  have y : ∀ b o, ¬ Free n b → h.get? b = some o → h'.get? b = some o := fun b o hb e => x b o (fun q => hb (hl b q)) e
  obtain ⟨g, b, xg, g1, g2, g3⟩ := B.base
  obtain ⟨po, uo, p, u, r⟩ := B.dat
  obtain ⟨t, e68⟩ := B.c68
  refine ⟨⟨g, b, fun a o e => y _ _ ?_ (xg a o e), g1, g2, g3⟩, ⟨po, uo, fun j hj => y _ _ ?_ (p j hj), y _ _ ?_ u, r⟩, ⟨t, y _ _ ?_ e68⟩, y _ _ ?_ B.c71, y _ _ ?_ B.l86⟩
  · rintro (rfl | rfl | ⟨q, _⟩)
    · rw [g2] at e; cases e
    · rw [g3] at e; cases e
    · rw [g1 a q] at e; cases e
  · rintro (q | q | ⟨_, _, _, _, _, q⟩)
    · omega
    · omega
    · exact q j hj rfl
  all_goals (rintro (q | q | ⟨_, q1, q2, q3, q4, _⟩) <;> first | exact absurd q (by decide) | omega)
theorem Pb.keeps (B : Pb w h n ax P U tx) (x : Ext h h') : Pb w h' n ax P U tx := B.buts (l := []) (fun _ q => nomatch q) fun b o _ e => x b o e
theorem Pb.but (B : Pb w h n ax P U tx) {a : Addr} (ha : Free n a) (x : ∀ b o, b ≠ a → h.get? b = some o → h'.get? b = some o) : Pb w h' n ax P U tx :=
  B.buts (l := [a]) (fun b q => by rw [List.mem_singleton.mp q]; exact ha) fun b o hb e => x b o (fun q => hb (q ▸ List.mem_singleton.mpr rfl)) e
end
theorem free61 (n : Nat) : Free n 61 := .inl rfl
theorem free66 (n : Nat) : Free n 66 := .inr (.inr ⟨by decide, by decide, by decide, by decide, by decide, fun j _ q => by omega⟩)
theorem free69 (n : Nat) : Free n 69 := .inr (.inr ⟨by decide, by decide, by decide, by decide, by decide, fun j _ q => by omega⟩)
theorem free70 (n : Nat) : Free n 70 := .inr (.inr ⟨by decide, by decide, by decide, by decide, by decide, fun j _ q => by omega⟩)
/-- what is plain of them -/
structure Pl (n ax : Nat) (P : Nat → List Int) (U : List Int) (tx : Nat → Str) : Prop where
  n5 : 5 ≤ n
  n12 : n ≤ 12
  a2 : 2 ≤ ax
  a3 : ax ≤ 3
  pl : ∀ j, (P j).length = ax + 1
  ul : U.length = ax
  tl : ∀ j, (tx j).cps.size = 4 * ax
  lt : ∀ i j, decide (turnF (P i) (P j) U < 0) = decide ((tx i).cps.toList < (tx j).cps.toList)
  sz : ∀ i j, szF (P i) (P j) ax = partF (tx i).cps.toList (tx j).cps.toList (4 * ax) ax
  bd : ∀ i, ∀ a ∈ (tx i).cps.toList, a < 64
end Mine
end
section -- MXa
set_option maxRecDepth 100000
set_option linter.constructorNameAsVariable false
namespace Mine
/-- the first head's objects are the second's -/
theorem sub39 (P : Params) : ((Mine.hk.heap_39 P).map fun p => (Mine.hd.heap_103 P).lookup p.1) = (Mine.hk.heap_39 P).map fun p => some p.2 := by kernel_rfl
theorem sub39n (P : Params) : ((Mine.hk.heap_39 P).all fun p => !(Nat.beq p.1 61) && !(Nat.beq p.1 23)) = true := by kernel_rfl
theorem sub103 (P : Params) : ((Mine.hd.heap_103 P).map fun p => (Mine.hd.heap_103 P).lookup p.1) = (Mine.hd.heap_103 P).map fun p => some p.2 := by kernel_rfl
theorem lookup_mem : ∀ {K : List (Addr × Obj)} {a : Addr} {o : Obj}, List.lookup a K = some o → (a, o) ∈ K
  | [], _, _, e => by cases e
  | (b, o') :: K, a, o, e => by
    unfold List.lookup at e
    split at e
    · rename_i h
      cases e
      rw [eq_of_beq h]
      exact .head _
    · exact .tail _ (lookup_mem e)
theorem lookup_of_map {K K' : Frag} (e : (K.map fun p => K'.lookup p.1) = K.map fun p => some p.2) : ∀ p ∈ K, K'.lookup p.1 = some p.2 := List.map_inj_left.mp e
theorem allIn_of_mem {h : Heap} : ∀ {K : Frag}, (∀ p ∈ K, h.get? p.1 = some p.2) → AllIn h K
  | [], _ => trivial
  | p :: K, H => ⟨H p (.head _), allIn_of_mem fun q hq => H q (.tail _ hq)⟩
theorem kh_of {K : Frag} {h : Heap} (m : ∀ p ∈ K, h.get? p.1 = some p.2) : KH (KT.of K) h := KH.mk (holds_of (allIn_of_mem m))
/-- the heap that the defs' contracts stand on: the tables that grow left out -/
noncomputable def bas (h : Heap) : Heap := hideAll h [61, 23]
theorem bas_get {h : Heap} {b : Addr} {o : Obj} (e : h.get? b = some o) (h1 : b ≠ 61) (h2 : b ≠ 23) : (bas h).get? b = some o := hideAll_get _ e (by simp; exact ⟨h1, h2⟩)
theorem bas_ext (h : Heap) : Ext (bas h) h := fun _ _ e => of_hideAll _ e
theorem bas_size (h : Heap) : (bas h).objs.size = h.objs.size := hideAll_size _ _
theorem bas_ns {h : Heap} {a : Addr} {m : Str → Option Value} (N : h.Ns a m) (h1 : a ≠ 61) (h2 : a ≠ 23) : (bas h).Ns a m := N.at' fun _ e => bas_get e h1 h2
noncomputable abbrev prog0 : Program := { main := { body := [.Import [{ name := "sys", asname := none, pos := ⟨0, 0, 0, 0⟩ }] ⟨0, 0, 0, 0⟩], scope := default, futureAnnotations := false, file := "" }, modules := [], parses := [], absent := [] }
theorem bas_top {p : Program} {loose : List Str} {mean : ExcName → Option Value} {mg mb : Str → Option Value} {h : Heap} (T : Top p loose mean mg mb h) (t61 : ∀ o, h.get? 61 = some o → o.cls ≠ .type "module") (t23 : ∀ o, h.get? 23 = some o → o.cls ≠ .type "module") :
    Top prog0 (loose ++ (recsOf p).map (·.name) ++ (litsOf p).map (·.1) ++ (clssOf p loose).map (·.name)) mean mg mb (bas h) where
  g := bas_ns T.g (by decide) (by decide)
  b := bas_ns T.b (by decide) (by decide)
  nolimit := by
    obtain ⟨mc, N, r⟩ := T.nolimit
    exact ⟨mc, bas_ns N (by decide) (by decide), r⟩
  nodigits := by
    obtain ⟨mc, N, r⟩ := T.nodigits
    exact ⟨mc, bas_ns N (by decide) (by decide), r⟩
  fn := fun d hd => by cases hd
  own := fun o ho => by cases ho
  const := fun x d e => by cases e
  free := fun x h1 h2 _ _ _ => by
    simp only [List.mem_append, not_or] at h2
    exact T.free x h1 h2.1.1.1 h2.1.1.2 h2.1.2 h2.2
  builtins := T.builtins
  tab := fun d hd => by cases hd
  bmain := by
    obtain ⟨bm, ob, h1, h2, h3, h4, r⟩ := T.bmain
    exact ⟨bm, ob, h1, h2, bas_get h3 (fun e => t61 ob (e ▸ h3) h4) (fun e => t23 ob (e ▸ h3) h4), h4, r⟩
  seer := fun e => absurd e (by decide)
theorem bas_bs {w : World} {p : Program} {loose : List Str} {mean : ExcName → Option Value} {mg mb : Str → Option Value} {h : Heap} (T : Top p loose mean mg mb h) (X : (Mine.hd.heap_103 w.params).In h) (t61 : ∀ o, h.get? 61 = some o → o.cls ≠ .type "module") (t23 : ∀ o, h.get? 23 = some o → o.cls ≠ .type "module") : Bs w (bas h) := by
  have T' := bas_top T t61 t23
  have m2 : ∀ q ∈ K2 w.params, (bas h).get? q.1 = some q.2 := fun q hq => by
    obtain ⟨hq, hb⟩ := List.mem_filter.mp hq
    rw [Bool.and_eq_true] at hb
    refine bas_get (X _ _ (lookup_of_map (sub103 w.params) q hq)) (fun e => ?_) (fun e => ?_)
    · rw [e] at hb; exact absurd hb.1 (by decide)
    · rw [e] at hb; exact absurd hb.2 (by decide)
  refine Bs.mk (Kn.mk (kh_of m2) T'.nolimit) (fun a o e => ?_) (fun a o e => m2 (a, o) (lookup_mem e)) ⟨_, _, _, _, _, T'⟩
  · have hm := lookup_mem e
    have hn := List.all_eq_true.mp (sub39n w.params) _ hm
    rw [Bool.and_eq_true] at hn
    refine bas_get (X _ _ (lookup_of_map (sub39 w.params) _ hm)) (fun e => ?_) (fun e => ?_)
    · subst e; exact absurd hn.1 (by show ¬ ((!(Nat.beq 61 61)) = true); decide)
    · subst e; exact absurd hn.2 (by show ¬ ((!(Nat.beq 23 23)) = true); decide)
end Mine
end
section -- MPreC
set_option maxRecDepth 100000
set_option linter.constructorNameAsVariable false
namespace Mine
theorem pr_0_2_t (w : World) (h : Heap) (d : Drawn) (tk : Nat) (os : OsState)  : PreRan (pin1 w true) h d tk os ([]) 2 (.int 2 (tk + 1)) 2 [35, 18, 52, 35, 200] [obA 2 2] := ⟨by kernel_rfl⟩
theorem pr_0_2_f (w : World) (h : Heap) (d : Drawn) (tk : Nat) (os : OsState)  : PreRan (pin1 w false) h d tk os ([]) 2 (.int 2 (tk + 1)) 2 [35, 18, 52, 35, 200] [obA 2 2] := ⟨by kernel_rfl⟩
theorem pr_1_2_t (w : World) (h : Heap) (d : Drawn) (tk : Nat) (os : OsState) (x0 : Int) (t0 : Tok) : PreRan (pin1 w true) h d tk os ([.int x0 t0]) 2 (.int x0 t0) x0 [35, 18, 52, 35, 200] [obA x0 2] := ⟨by kernel_rfl⟩
theorem pr_1_2_f (w : World) (h : Heap) (d : Drawn) (tk : Nat) (os : OsState) (x0 : Int) (t0 : Tok) : PreRan (pin1 w false) h d tk os ([.int x0 t0]) 2 (.int x0 t0) x0 [35, 18, 52, 35, 200] [obA x0 2] := ⟨by kernel_rfl⟩
theorem pr_1_3_t (w : World) (h : Heap) (d : Drawn) (tk : Nat) (os : OsState) (x0 : Int) (t0 : Tok) : PreRan (pin1 w true) h d tk os ([.int x0 t0]) 3 (.int x0 t0) x0 [35, 18, 52, 35, 200] [obA x0 3] := ⟨by kernel_rfl⟩
theorem pr_1_3_f (w : World) (h : Heap) (d : Drawn) (tk : Nat) (os : OsState) (x0 : Int) (t0 : Tok) : PreRan (pin1 w false) h d tk os ([.int x0 t0]) 3 (.int x0 t0) x0 [35, 18, 52, 35, 200] [obA x0 3] := ⟨by kernel_rfl⟩
theorem pr_2_2_t (w : World) (h : Heap) (d : Drawn) (tk : Nat) (os : OsState) (x0 x1 : Int) (t0 t1 : Tok) : PreRan (pin1 w true) h d tk os ([.int x0 t0, .int x1 t1]) 2 (.int x0 t0) x0 [x1, 35, 18, 52, 35, 200] [obA x0 2] := ⟨by kernel_rfl⟩
theorem pr_2_2_f (w : World) (h : Heap) (d : Drawn) (tk : Nat) (os : OsState) (x0 x1 : Int) (t0 t1 : Tok) : PreRan (pin1 w false) h d tk os ([.int x0 t0, .int x1 t1]) 2 (.int x0 t0) x0 [x1, 35, 18, 52, 35, 200] [obA x0 2] := ⟨by kernel_rfl⟩
theorem pr_2_3_t (w : World) (h : Heap) (d : Drawn) (tk : Nat) (os : OsState) (x0 x1 : Int) (t0 t1 : Tok) : PreRan (pin1 w true) h d tk os ([.int x0 t0, .int x1 t1]) 3 (.int x0 t0) x0 [x1, 35, 18, 52, 35, 200] [obA x0 3] := ⟨by kernel_rfl⟩
theorem pr_2_3_f (w : World) (h : Heap) (d : Drawn) (tk : Nat) (os : OsState) (x0 x1 : Int) (t0 t1 : Tok) : PreRan (pin1 w false) h d tk os ([.int x0 t0, .int x1 t1]) 3 (.int x0 t0) x0 [x1, 35, 18, 52, 35, 200] [obA x0 3] := ⟨by kernel_rfl⟩
theorem pr_3_2_t (w : World) (h : Heap) (d : Drawn) (tk : Nat) (os : OsState) (x0 x1 x2 : Int) (t0 t1 t2 : Tok) : PreRan (pin1 w true) h d tk os ([.int x0 t0, .int x1 t1, .int x2 t2]) 2 (.int x0 t0) x0 [x1, x2, 35, 18, 52, 35, 200] [obA x0 2] := ⟨by kernel_rfl⟩
theorem pr_3_2_f (w : World) (h : Heap) (d : Drawn) (tk : Nat) (os : OsState) (x0 x1 x2 : Int) (t0 t1 t2 : Tok) : PreRan (pin1 w false) h d tk os ([.int x0 t0, .int x1 t1, .int x2 t2]) 2 (.int x0 t0) x0 [x1, x2, 35, 18, 52, 35, 200] [obA x0 2] := ⟨by kernel_rfl⟩
theorem pr_3_3_t (w : World) (h : Heap) (d : Drawn) (tk : Nat) (os : OsState) (x0 x1 x2 : Int) (t0 t1 t2 : Tok) : PreRan (pin1 w true) h d tk os ([.int x0 t0, .int x1 t1, .int x2 t2]) 3 (.int x0 t0) x0 [x1, x2, 35, 18, 52, 35, 200] [obA x0 3] := ⟨by kernel_rfl⟩
theorem pr_3_3_f (w : World) (h : Heap) (d : Drawn) (tk : Nat) (os : OsState) (x0 x1 x2 : Int) (t0 t1 t2 : Tok) : PreRan (pin1 w false) h d tk os ([.int x0 t0, .int x1 t1, .int x2 t2]) 3 (.int x0 t0) x0 [x1, x2, 35, 18, 52, 35, 200] [obA x0 3] := ⟨by kernel_rfl⟩
theorem pr_4_2_t (w : World) (h : Heap) (d : Drawn) (tk : Nat) (os : OsState) (x0 x1 x2 x3 : Int) (t0 t1 t2 t3 : Tok) : PreRan (pin1 w true) h d tk os ([.int x0 t0, .int x1 t1, .int x2 t2, .int x3 t3]) 2 (.int x0 t0) x0 [x1, x2, x3, 35, 18, 52, 35, 200] [obA x0 2] := ⟨by kernel_rfl⟩
theorem pr_4_2_f (w : World) (h : Heap) (d : Drawn) (tk : Nat) (os : OsState) (x0 x1 x2 x3 : Int) (t0 t1 t2 t3 : Tok) : PreRan (pin1 w false) h d tk os ([.int x0 t0, .int x1 t1, .int x2 t2, .int x3 t3]) 2 (.int x0 t0) x0 [x1, x2, x3, 35, 18, 52, 35, 200] [obA x0 2] := ⟨by kernel_rfl⟩
theorem pr_4_3_t (w : World) (h : Heap) (d : Drawn) (tk : Nat) (os : OsState) (x0 x1 x2 x3 : Int) (t0 t1 t2 t3 : Tok) : PreRan (pin1 w true) h d tk os ([.int x0 t0, .int x1 t1, .int x2 t2, .int x3 t3]) 3 (.int x0 t0) x0 [x1, x2, x3, 35, 18, 52, 35, 200] [obA x0 3] := ⟨by kernel_rfl⟩
theorem pr_4_3_f (w : World) (h : Heap) (d : Drawn) (tk : Nat) (os : OsState) (x0 x1 x2 x3 : Int) (t0 t1 t2 t3 : Tok) : PreRan (pin1 w false) h d tk os ([.int x0 t0, .int x1 t1, .int x2 t2, .int x3 t3]) 3 (.int x0 t0) x0 [x1, x2, x3, 35, 18, 52, 35, 200] [obA x0 3] := ⟨by kernel_rfl⟩
theorem pr_5_2_t (w : World) (h : Heap) (d : Drawn) (tk : Nat) (os : OsState) (x0 x1 x2 x3 x4 : Int) (t0 t1 t2 t3 t4 : Tok) : PreRan (pin1 w true) h d tk os ([.int x0 t0, .int x1 t1, .int x2 t2, .int x3 t3, .int x4 t4]) 2 (.int x0 t0) x0 [x1, x2, x3, x4, 35, 18, 52, 35, 200] [obA x0 2] := ⟨by kernel_rfl⟩
theorem pr_5_2_f (w : World) (h : Heap) (d : Drawn) (tk : Nat) (os : OsState) (x0 x1 x2 x3 x4 : Int) (t0 t1 t2 t3 t4 : Tok) : PreRan (pin1 w false) h d tk os ([.int x0 t0, .int x1 t1, .int x2 t2, .int x3 t3, .int x4 t4]) 2 (.int x0 t0) x0 [x1, x2, x3, x4, 35, 18, 52, 35, 200] [obA x0 2] := ⟨by kernel_rfl⟩
theorem pr_5_3_t (w : World) (h : Heap) (d : Drawn) (tk : Nat) (os : OsState) (x0 x1 x2 x3 x4 : Int) (t0 t1 t2 t3 t4 : Tok) : PreRan (pin1 w true) h d tk os ([.int x0 t0, .int x1 t1, .int x2 t2, .int x3 t3, .int x4 t4]) 3 (.int x0 t0) x0 [x1, x2, x3, x4, 35, 18, 52, 35, 200] [obA x0 3] := ⟨by kernel_rfl⟩
theorem pr_5_3_f (w : World) (h : Heap) (d : Drawn) (tk : Nat) (os : OsState) (x0 x1 x2 x3 x4 : Int) (t0 t1 t2 t3 t4 : Tok) : PreRan (pin1 w false) h d tk os ([.int x0 t0, .int x1 t1, .int x2 t2, .int x3 t3, .int x4 t4]) 3 (.int x0 t0) x0 [x1, x2, x3, x4, 35, 18, 52, 35, 200] [obA x0 3] := ⟨by kernel_rfl⟩
theorem pr_6_2_t (w : World) (h : Heap) (d : Drawn) (tk : Nat) (os : OsState) (x0 x1 x2 x3 x4 x5 : Int) (t0 t1 t2 t3 t4 t5 : Tok) : PreRan (pin1 w true) h d tk os ([.int x0 t0, .int x1 t1, .int x2 t2, .int x3 t3, .int x4 t4, .int x5 t5]) 2 (.int x0 t0) x0 [x1, x2, x3, x4, x5, 35, 18, 52, 35, 200] [obA x0 2] := ⟨by kernel_rfl⟩
theorem pr_6_2_f (w : World) (h : Heap) (d : Drawn) (tk : Nat) (os : OsState) (x0 x1 x2 x3 x4 x5 : Int) (t0 t1 t2 t3 t4 t5 : Tok) : PreRan (pin1 w false) h d tk os ([.int x0 t0, .int x1 t1, .int x2 t2, .int x3 t3, .int x4 t4, .int x5 t5]) 2 (.int x0 t0) x0 [x1, x2, x3, x4, x5, 35, 18, 52, 35, 200] [obA x0 2] := ⟨by kernel_rfl⟩
theorem pr_6_3_t (w : World) (h : Heap) (d : Drawn) (tk : Nat) (os : OsState) (x0 x1 x2 x3 x4 x5 : Int) (t0 t1 t2 t3 t4 t5 : Tok) : PreRan (pin1 w true) h d tk os ([.int x0 t0, .int x1 t1, .int x2 t2, .int x3 t3, .int x4 t4, .int x5 t5]) 3 (.int x0 t0) x0 [x1, x2, x3, x4, x5, 35, 18, 52, 35, 200] [obA x0 3] := ⟨by kernel_rfl⟩
theorem pr_6_3_f (w : World) (h : Heap) (d : Drawn) (tk : Nat) (os : OsState) (x0 x1 x2 x3 x4 x5 : Int) (t0 t1 t2 t3 t4 t5 : Tok) : PreRan (pin1 w false) h d tk os ([.int x0 t0, .int x1 t1, .int x2 t2, .int x3 t3, .int x4 t4, .int x5 t5]) 3 (.int x0 t0) x0 [x1, x2, x3, x4, x5, 35, 18, 52, 35, 200] [obA x0 3] := ⟨by kernel_rfl⟩
theorem pr_7_2_t (w : World) (h : Heap) (d : Drawn) (tk : Nat) (os : OsState) (x0 x1 x2 x3 x4 x5 x6 : Int) (t0 t1 t2 t3 t4 t5 t6 : Tok) : PreRan (pin1 w true) h d tk os ([.int x0 t0, .int x1 t1, .int x2 t2, .int x3 t3, .int x4 t4, .int x5 t5, .int x6 t6]) 2 (.int x0 t0) x0 [x1, x2, x3, x4, x5, x6, 35, 18, 52, 35, 200] [obA x0 2] := ⟨by kernel_rfl⟩
theorem pr_7_2_f (w : World) (h : Heap) (d : Drawn) (tk : Nat) (os : OsState) (x0 x1 x2 x3 x4 x5 x6 : Int) (t0 t1 t2 t3 t4 t5 t6 : Tok) : PreRan (pin1 w false) h d tk os ([.int x0 t0, .int x1 t1, .int x2 t2, .int x3 t3, .int x4 t4, .int x5 t5, .int x6 t6]) 2 (.int x0 t0) x0 [x1, x2, x3, x4, x5, x6, 35, 18, 52, 35, 200] [obA x0 2] := ⟨by kernel_rfl⟩
theorem pr_7_3_t (w : World) (h : Heap) (d : Drawn) (tk : Nat) (os : OsState) (x0 x1 x2 x3 x4 x5 x6 : Int) (t0 t1 t2 t3 t4 t5 t6 : Tok) : PreRan (pin1 w true) h d tk os ([.int x0 t0, .int x1 t1, .int x2 t2, .int x3 t3, .int x4 t4, .int x5 t5, .int x6 t6]) 3 (.int x0 t0) x0 [x1, x2, x3, x4, x5, x6, 35, 18, 52, 35, 200] [obA x0 3] := ⟨by kernel_rfl⟩
theorem pr_7_3_f (w : World) (h : Heap) (d : Drawn) (tk : Nat) (os : OsState) (x0 x1 x2 x3 x4 x5 x6 : Int) (t0 t1 t2 t3 t4 t5 t6 : Tok) : PreRan (pin1 w false) h d tk os ([.int x0 t0, .int x1 t1, .int x2 t2, .int x3 t3, .int x4 t4, .int x5 t5, .int x6 t6]) 3 (.int x0 t0) x0 [x1, x2, x3, x4, x5, x6, 35, 18, 52, 35, 200] [obA x0 3] := ⟨by kernel_rfl⟩
theorem pr_8_2_t (w : World) (h : Heap) (d : Drawn) (tk : Nat) (os : OsState) (x0 x1 x2 x3 x4 x5 x6 x7 : Int) (t0 t1 t2 t3 t4 t5 t6 t7 : Tok) (rest : List Value) : PreRan (pin1 w true) h d tk os (.int x0 t0 :: .int x1 t1 :: .int x2 t2 :: .int x3 t3 :: .int x4 t4 :: .int x5 t5 :: .int x6 t6 :: .int x7 t7 :: rest) 2 (.int x0 t0) x0 [x1, x2, x3, x4, x5, x6, x7, 35, 18, 52, 35, 200] [obS (rest.length + 8), obA x0 2, obS (rest.length + 8 + 1)] := ⟨by kernel_rfl⟩
theorem pr_8_2_f (w : World) (h : Heap) (d : Drawn) (tk : Nat) (os : OsState) (x0 x1 x2 x3 x4 x5 x6 x7 : Int) (t0 t1 t2 t3 t4 t5 t6 t7 : Tok) (rest : List Value) : PreRan (pin1 w false) h d tk os (.int x0 t0 :: .int x1 t1 :: .int x2 t2 :: .int x3 t3 :: .int x4 t4 :: .int x5 t5 :: .int x6 t6 :: .int x7 t7 :: rest) 2 (.int x0 t0) x0 [x1, x2, x3, x4, x5, x6, x7, 35, 18, 52, 35, 200] [obS (rest.length + 8), obA x0 2, obS (rest.length + 8 + 1)] := ⟨by kernel_rfl⟩
theorem pr_8_3_t (w : World) (h : Heap) (d : Drawn) (tk : Nat) (os : OsState) (x0 x1 x2 x3 x4 x5 x6 x7 : Int) (t0 t1 t2 t3 t4 t5 t6 t7 : Tok) (rest : List Value) : PreRan (pin1 w true) h d tk os (.int x0 t0 :: .int x1 t1 :: .int x2 t2 :: .int x3 t3 :: .int x4 t4 :: .int x5 t5 :: .int x6 t6 :: .int x7 t7 :: rest) 3 (.int x0 t0) x0 [x1, x2, x3, x4, x5, x6, x7, 35, 18, 52, 35, 200] [obS (rest.length + 8), obA x0 3, obS (rest.length + 8 + 1)] := ⟨by kernel_rfl⟩
theorem pr_8_3_f (w : World) (h : Heap) (d : Drawn) (tk : Nat) (os : OsState) (x0 x1 x2 x3 x4 x5 x6 x7 : Int) (t0 t1 t2 t3 t4 t5 t6 t7 : Tok) (rest : List Value) : PreRan (pin1 w false) h d tk os (.int x0 t0 :: .int x1 t1 :: .int x2 t2 :: .int x3 t3 :: .int x4 t4 :: .int x5 t5 :: .int x6 t6 :: .int x7 t7 :: rest) 3 (.int x0 t0) x0 [x1, x2, x3, x4, x5, x6, x7, 35, 18, 52, 35, 200] [obS (rest.length + 8), obA x0 3, obS (rest.length + 8 + 1)] := ⟨by kernel_rfl⟩
end Mine
end
section -- MLaw
namespace Mine
/-- the highest place at which two figures' rows differ -/
noncomputable def hbE (a b c d : Bool) : Int := if a then 3 else if b then 2 else if c then 1 else if d then 0 else -1
noncomputable def dif (c d : Int) (p : Nat) : Bool := fig c p != fig d p
theorem ax_all : ∀ c : _root_.Fin 16, ∀ d : _root_.Fin 16, hbF (Builtin.bitXor (c.val : Int) (d.val : Int)) = hbE (dif c.val d.val 3) (dif c.val d.val 2) (dif c.val d.val 1) (dif c.val d.val 0) := by decide +kernel
theorem fig_all : ∀ c : _root_.Fin 16, ∀ p : _root_.Fin 4, fig (c.val : Int) p.val = 0 ∨ fig (c.val : Int) p.val = 1 := by decide +kernel
noncomputable def ltE (c d : Int) : Bool := if dif c d 3 then decide (fig c 3 < fig d 3) else if dif c d 2 then decide (fig c 2 < fig d 2) else if dif c d 1 then decide (fig c 1 < fig d 1) else if dif c d 0 then decide (fig c 0 < fig d 0) else false
theorem lt_all : ∀ c : _root_.Fin 16, ∀ d : _root_.Fin 16, decide ((c.val : Int) < (d.val : Int)) = ltE c.val d.val := by decide +kernel
noncomputable abbrev In16 (c : Int) : Prop := 0 ≤ c ∧ c < 16
theorem In16.fin {c : Int} (h : In16 c) : ∃ k : _root_.Fin 16, c = (k.val : Int) := ⟨⟨c.toNat, by omega⟩, by simp; omega⟩
theorem hb_is {c d : Int} (hc : In16 c) (hd : In16 d) : hbF (Builtin.bitXor c d) = hbE (dif c d 3) (dif c d 2) (dif c d 1) (dif c d 0) := by
  obtain ⟨a, rfl⟩ := hc.fin
  obtain ⟨b, rfl⟩ := hd.fin
  exact ax_all a b
theorem lt_is {c d : Int} (hc : In16 c) (hd : In16 d) : decide (c < d) = ltE c d := by
  obtain ⟨a, rfl⟩ := hc.fin
  obtain ⟨b, rfl⟩ := hd.fin
  exact lt_all a b
theorem fig_is {c : Int} (hc : In16 c) {p : Nat} (hp : p < 4) : fig c p = 0 ∨ fig c p = 1 := by
  obtain ⟨a, rfl⟩ := hc.fin
  exact fig_all a ⟨p, hp⟩
noncomputable abbrev Bit (u : Int) : Prop := u = 0 ∨ u = 1
theorem sgn_ne {c d u : Int} {p : Nat} (hc : Bit (fig c p)) (hd : Bit (fig d p)) (hu : Bit u) : (sgn c p u != sgn d p u) = dif c d p := by
  unfold sgn dif
  rcases hc with hc | hc <;> rcases hd with hd | hd <;> rcases hu with hu | hu <;> rw [hc, hd, hu] <;> decide
/-- the first place of a row of flags -/
noncomputable def parE (es : List Bool) (ax : Int) : Int := match (List.range es.length).filter fun j => es.getD j false with
  | [] => -1
  | j :: _ => 3 - Int.fdiv (j : Nat) ax
theorem B2all : ∀ a3 b3 a2 b2 a1 b1 a0 b0 : Bool, max (hbE a3 a2 a1 a0) (hbE b3 b2 b1 b0) = parE [a3, b3, a2, b2, a1, b1, a0, b0] 2 := by decide +kernel
theorem B3all : ∀ a3 b3 c3 a2 b2 c2 a1 b1 c1 a0 b0 c0 : Bool, max (max (hbE a3 a2 a1 a0) (hbE b3 b2 b1 b0)) (hbE c3 c2 c1 c0) = parE [a3, b3, c3, a2, b2, c2, a1, b1, c1, a0, b0, c0] 3 := by decide +kernel
theorem parF_eq (x y : List Nat) (es : List Bool) (n : Nat) (ax : Int) (hn : es.length = n) (he : ∀ j, j < n → (x.getD j 0 != y.getD j 0) = es.getD j false) : partF x y n ax = parE es ax := by
  have e : dfs x y n = ((List.range es.length).filter fun j => es.getD j false).map fun j => ((j : Nat) : Int) := by
    unfold dfs
    rw [hn]
    congr 1
    apply List.filter_congr
    intro j hj
    rw [he j (List.mem_range.mp hj)]
  unfold partF parE
  rw [e]
  cases (List.range es.length).filter fun j => es.getD j false <;> rfl
theorem B2 {c0 c1 d0 d1 u v i j : Int} (h0 : In16 c0) (h1 : In16 c1) (k0 : In16 d0) (k1 : In16 d1) (hu : Bit u) (hv : Bit v) :
    szF [c0, c1, i] [d0, d1, j] 2 = partF (tx2S c0 c1 u v).cps.toList (tx2S d0 d1 u v).cps.toList 8 2 := by
  rw [parF_eq _ _ [dif c0 d0 3, dif c1 d1 3, dif c0 d0 2, dif c1 d1 2, dif c0 d0 1, dif c1 d1 1, dif c0 d0 0, dif c1 d1 0] 8 2 rfl ?_, ← B2all]
  · unfold szF hbx
    rw [if_pos rfl]
    show max (hbF (Builtin.bitXor c0 d0)) (hbF (Builtin.bitXor c1 d1)) = _
    rw [hb_is h0 k0, hb_is h1 k1]
  · intro q hq
    have F0 := fun p hp => @fig_is c0 h0 p hp
    have F1 := fun p hp => @fig_is c1 h1 p hp
    have G0 := fun p hp => @fig_is d0 k0 p hp
    have G1 := fun p hp => @fig_is d1 k1 p hp
    match q, hq with
    | 0, _ => exact sgn_ne (F0 3 (by decide)) (G0 3 (by decide)) hu
    | 1, _ => exact sgn_ne (F1 3 (by decide)) (G1 3 (by decide)) hv
    | 2, _ => exact sgn_ne (F0 2 (by decide)) (G0 2 (by decide)) hu
    | 3, _ => exact sgn_ne (F1 2 (by decide)) (G1 2 (by decide)) hv
    | 4, _ => exact sgn_ne (F0 1 (by decide)) (G0 1 (by decide)) hu
    | 5, _ => exact sgn_ne (F1 1 (by decide)) (G1 1 (by decide)) hv
    | 6, _ => exact sgn_ne (F0 0 (by decide)) (G0 0 (by decide)) hu
    | 7, _ => exact sgn_ne (F1 0 (by decide)) (G1 0 (by decide)) hv
    | q + 8, hq => omega
theorem B3 {c0 c1 c2 d0 d1 d2 u v x i j : Int} (h0 : In16 c0) (h1 : In16 c1) (h2 : In16 c2) (k0 : In16 d0) (k1 : In16 d1) (k2 : In16 d2) (hu : Bit u) (hv : Bit v) (hx : Bit x) :
    szF [c0, c1, c2, i] [d0, d1, d2, j] 3 = partF (tx3S c0 c1 c2 u v x).cps.toList (tx3S d0 d1 d2 u v x).cps.toList 12 3 := by
  rw [parF_eq _ _ [dif c0 d0 3, dif c1 d1 3, dif c2 d2 3, dif c0 d0 2, dif c1 d1 2, dif c2 d2 2, dif c0 d0 1, dif c1 d1 1, dif c2 d2 1, dif c0 d0 0, dif c1 d1 0, dif c2 d2 0] 12 3 rfl ?_, ← B3all]
  · unfold szF hbx
    rw [if_neg (by decide)]
    show max (max (hbF (Builtin.bitXor c0 d0)) (hbF (Builtin.bitXor c1 d1))) (hbF (Builtin.bitXor c2 d2)) = _
    rw [hb_is h0 k0, hb_is h1 k1, hb_is h2 k2]
  · intro q hq
    have F0 := fun p hp => @fig_is c0 h0 p hp
    have F1 := fun p hp => @fig_is c1 h1 p hp
    have F2 := fun p hp => @fig_is c2 h2 p hp
    have G0 := fun p hp => @fig_is d0 k0 p hp
    have G1 := fun p hp => @fig_is d1 k1 p hp
    have G2 := fun p hp => @fig_is d2 k2 p hp
    match q, hq with
    | 0, _ => exact sgn_ne (F0 3 (by decide)) (G0 3 (by decide)) hu
    | 1, _ => exact sgn_ne (F1 3 (by decide)) (G1 3 (by decide)) hv
    | 2, _ => exact sgn_ne (F2 3 (by decide)) (G2 3 (by decide)) hx
    | 3, _ => exact sgn_ne (F0 2 (by decide)) (G0 2 (by decide)) hu
    | 4, _ => exact sgn_ne (F1 2 (by decide)) (G1 2 (by decide)) hv
    | 5, _ => exact sgn_ne (F2 2 (by decide)) (G2 2 (by decide)) hx
    | 6, _ => exact sgn_ne (F0 1 (by decide)) (G0 1 (by decide)) hu
    | 7, _ => exact sgn_ne (F1 1 (by decide)) (G1 1 (by decide)) hv
    | 8, _ => exact sgn_ne (F2 1 (by decide)) (G2 1 (by decide)) hx
    | 9, _ => exact sgn_ne (F0 0 (by decide)) (G0 0 (by decide)) hu
    | 10, _ => exact sgn_ne (F1 0 (by decide)) (G1 0 (by decide)) hv
    | 11, _ => exact sgn_ne (F2 0 (by decide)) (G2 0 (by decide)) hx
    | q + 12, hq => omega
end Mine
end
section -- MLawA
namespace Mine
/-- of each place: do the signs differ, is the first one less -/
noncomputable def mns (c d u : Int) (p : Nat) : Bool := decide (sgn c p u < sgn d p u)
noncomputable def fst4 (e3 m3 e2 m2 e1 m1 e0 m0 : Bool) : Bool := if e3 then m3 else if e2 then m2 else if e1 then m1 else if e0 then m0 else false
noncomputable def told (c d u : Int) : Int := if ¬u = 0 then d - c else c - d
theorem l_all : ∀ c : _root_.Fin 16, ∀ d : _root_.Fin 16, ∀ u : _root_.Fin 2, decide (told (c.val : Int) (d.val : Int) (u.val : Int) < 0) =
    fst4 (dif c.val d.val 3) (mns c.val d.val u.val 3) (dif c.val d.val 2) (mns c.val d.val u.val 2) (dif c.val d.val 1) (mns c.val d.val u.val 1) (dif c.val d.val 0) (mns c.val d.val u.val 0) := by decide +kernel
theorem l_is {c d u : Int} (hc : In16 c) (hd : In16 d) (hu : Bit u) : decide (told c d u < 0) =
    fst4 (dif c d 3) (mns c d u 3) (dif c d 2) (mns c d u 2) (dif c d 1) (mns c d u 1) (dif c d 0) (mns c d u 0) := by
  obtain ⟨a, rfl⟩ := hc.fin
  obtain ⟨b, rfl⟩ := hd.fin
  rcases hu with rfl | rfl
  · exact l_all a b 0
  · exact l_all a b 1
/-- a choice by the greater first part -/
noncomputable def sel {α : Type} (x y : Int × α) : Int × α := if x.1 < y.1 then y else x
theorem sel_map {α β : Type} (f : α → β) (x y : Int × α) : sel (x.1, f x.2) (y.1, f y.2) = ((sel x y).1, f (sel x y).2) := by
  unfold sel; split <;> rfl
noncomputable def mAt (ms : List Bool) (i : Option Nat) : Bool := match i with
  | some j => ms.getD j false
  | none => false
noncomputable def idx4 (e3 e2 e1 e0 : Bool) (i3 i2 i1 i0 : Nat) : Option Nat := if e3 then some i3 else if e2 then some i2 else if e1 then some i1 else if e0 then some i0 else none
theorem fst4_at (ms : List Bool) (e3 e2 e1 e0 : Bool) (i3 i2 i1 i0 : Nat) : fst4 e3 (ms.getD i3 false) e2 (ms.getD i2 false) e1 (ms.getD i1 false) e0 (ms.getD i0 false) = mAt ms (idx4 e3 e2 e1 e0 i3 i2 i1 i0) := by
  cases e3 <;> cases e2 <;> cases e1 <;> cases e0 <;> rfl
noncomputable def firstI : List Bool → Nat → Option Nat
  | [], _ => none
  | e :: l, i => if e then some i else firstI l (i + 1)
theorem A2all : ∀ a3 b3 a2 b2 a1 b1 a0 b0 : Bool, (sel (sel (-1, none) (hbE a3 a2 a1 a0, idx4 a3 a2 a1 a0 0 2 4 6)) (hbE b3 b2 b1 b0, idx4 b3 b2 b1 b0 1 3 5 7)).2 = firstI [a3, b3, a2, b2, a1, b1, a0, b0] 0 := by decide +kernel
theorem A3all : ∀ a3 b3 c3 a2 b2 c2 a1 b1 c1 a0 b0 c0 : Bool, (sel (sel (sel (-1, none) (hbE a3 a2 a1 a0, idx4 a3 a2 a1 a0 0 3 6 9)) (hbE b3 b2 b1 b0, idx4 b3 b2 b1 b0 1 4 7 10)) (hbE c3 c2 c1 c0, idx4 c3 c2 c1 c0 2 5 8 11)).2 = firstI [a3, b3, c3, a2, b2, c2, a1, b1, c1, a0, b0, c0] 0 := by decide +kernel
theorem lex_at : ∀ (x y : List Nat) (es ms pre : List Bool), x.length = y.length → es.length = x.length → (∀ j, j < x.length → (x.getD j 0 != y.getD j 0) = es.getD j false) → (∀ j, j < x.length → decide (x.getD j 0 < y.getD j 0) = ms.getD (pre.length + j) false) →
    decide (x < y) = mAt ms (firstI es pre.length)
  | [], [], es, ms, pre, _, he, _, _ => by
    have : es = [] := List.length_eq_zero_iff.mp he
    subst this
    rfl
  | [], _ :: _, _, _, _, h, _, _, _ => by simp at h
  | _ :: _, [], _, _, _, h, _, _, _ => by simp at h
  | a :: x, b :: y, es, ms, pre, h, he, h1, h2 => by
    cases es with
    | nil => simp at he
    | cons e es =>
      have e0 : (a != b) = e := h1 0 (by simp)
      have m0 : decide (a < b) = ms.getD pre.length false := h2 0 (by simp)
      cases e with
      | true =>
        have hab : a ≠ b := by simpa using e0
        show _ = ms.getD pre.length false
        rw [← m0]
        apply decide_eq_decide.mpr
        rw [List.cons_lt_cons_iff]
        exact ⟨fun q => q.elim id fun z => absurd z.1 hab, .inl⟩
      | false =>
        have hab : a = b := by simpa using e0
        subst hab
        show _ = mAt ms (firstI es (pre.length + 1))
        have ih := lex_at x y es ms (pre ++ [false]) (by simpa using h) (by simpa using he) (fun j hj => h1 (j + 1) (by simp; omega)) (fun j hj => by
          have := h2 (j + 1) (by simp; omega)
          rw [List.length_append, List.length_singleton, show pre.length + 1 + j = pre.length + (j + 1) by omega]
          exact this)
        rw [List.length_append, List.length_singleton] at ih
        rw [← ih]
        apply decide_eq_decide.mpr
        rw [List.cons_lt_cons_iff]
        exact ⟨fun q => q.elim (fun z => absurd z (Nat.lt_irrefl _)) And.right, fun q => .inr ⟨rfl, q⟩⟩
/-- a step of _law_turn -/
theorem step_is (n1 n2 n3 : List Int) (p : Int × Int) (k : Int) : turnStep n1 n2 n3 p k = sel p (hbF (Builtin.bitXor (n1.getD k.toNat 0) (n2.getD k.toNat 0)), told (n1.getD k.toNat 0) (n2.getD k.toNat 0) (n3.getD k.toNat 0)) := by
  unfold turnStep sel told
  generalize n1.getD k.toNat 0 = a
  generalize n2.getD k.toNat 0 = b
  generalize n3.getD k.toNat 0 = c
  generalize hbF (Builtin.bitXor a b) = H
  obtain ⟨p1, p2⟩ := p
  by_cases h : p1 < H <;> by_cases q : c = 0 <;> simp [h, q]
noncomputable def neg (t : Int) : Bool := decide (t < 0)
theorem turn2 (c0 c1 d0 d1 u v i j : Int) : turnF [c0, c1, i] [d0, d1, j] [u, v] = (sel (sel (-1, 0) (hbF (Builtin.bitXor c0 d0), told c0 d0 u)) (hbF (Builtin.bitXor c1 d1), told c1 d1 v)).2 := by
  unfold turnF
  rw [show rangeKs 0 (((([u, v] : List Int).length : Int) - 0).toNat) = [0, 1] from rfl]
  simp only [List.foldl_cons, List.foldl_nil, step_is]
  rfl
theorem turn3 (c0 c1 c2 d0 d1 d2 u v x i j : Int) : turnF [c0, c1, c2, i] [d0, d1, d2, j] [u, v, x] = (sel (sel (sel (-1, 0) (hbF (Builtin.bitXor c0 d0), told c0 d0 u)) (hbF (Builtin.bitXor c1 d1), told c1 d1 v)) (hbF (Builtin.bitXor c2 d2), told c2 d2 x)).2 := by
  unfold turnF
  rw [show rangeKs 0 (((([u, v, x] : List Int).length : Int) - 0).toNat) = [0, 1, 2] from rfl]
  simp only [List.foldl_cons, List.foldl_nil, step_is]
  rfl
theorem A2 {c0 c1 d0 d1 u v i j : Int} (h0 : In16 c0) (h1 : In16 c1) (k0 : In16 d0) (k1 : In16 d1) (hu : Bit u) (hv : Bit v) :
    decide (turnF [c0, c1, i] [d0, d1, j] [u, v] < 0) = decide ((tx2S c0 c1 u v).cps.toList < (tx2S d0 d1 u v).cps.toList) := by
  have F0 := fun p hp => @fig_is c0 h0 p hp
  have F1 := fun p hp => @fig_is c1 h1 p hp
  have G0 := fun p hp => @fig_is d0 k0 p hp
  have G1 := fun p hp => @fig_is d1 k1 p hp
  let ms : List Bool := [mns c0 d0 u 3, mns c1 d1 v 3, mns c0 d0 u 2, mns c1 d1 v 2, mns c0 d0 u 1, mns c1 d1 v 1, mns c0 d0 u 0, mns c1 d1 v 0]
  have R := lex_at (tx2S c0 c1 u v).cps.toList (tx2S d0 d1 u v).cps.toList [dif c0 d0 3, dif c1 d1 3, dif c0 d0 2, dif c1 d1 2, dif c0 d0 1, dif c1 d1 1, dif c0 d0 0, dif c1 d1 0] ms [] rfl rfl (by
    intro q hq
    match q, hq with
    | 0, _ => exact sgn_ne (F0 3 (by decide)) (G0 3 (by decide)) hu
    | 1, _ => exact sgn_ne (F1 3 (by decide)) (G1 3 (by decide)) hv
    | 2, _ => exact sgn_ne (F0 2 (by decide)) (G0 2 (by decide)) hu
    | 3, _ => exact sgn_ne (F1 2 (by decide)) (G1 2 (by decide)) hv
    | 4, _ => exact sgn_ne (F0 1 (by decide)) (G0 1 (by decide)) hu
    | 5, _ => exact sgn_ne (F1 1 (by decide)) (G1 1 (by decide)) hv
    | 6, _ => exact sgn_ne (F0 0 (by decide)) (G0 0 (by decide)) hu
    | 7, _ => exact sgn_ne (F1 0 (by decide)) (G1 0 (by decide)) hv
    | q + 8, hq => exact absurd hq (by simp)) (by
    intro q hq
    match q, hq with
    | 0, _ => rfl
    | 1, _ => rfl
    | 2, _ => rfl
    | 3, _ => rfl
    | 4, _ => rfl
    | 5, _ => rfl
    | 6, _ => rfl
    | 7, _ => rfl
    | q + 8, hq => exact absurd hq (by simp))
  rw [R, List.length_nil, ← A2all, turn2, hb_is h0 k0, hb_is h1 k1]
  have n0 : ((-1 : Int), neg 0) = (-1, mAt ms none) := rfl
  have e0 : neg (told c0 d0 u) = mAt ms (idx4 (dif c0 d0 3) (dif c0 d0 2) (dif c0 d0 1) (dif c0 d0 0) 0 2 4 6) := by
    rw [← fst4_at]; exact l_is h0 k0 hu
  have e1 : neg (told c1 d1 v) = mAt ms (idx4 (dif c1 d1 3) (dif c1 d1 2) (dif c1 d1 1) (dif c1 d1 0) 1 3 5 7) := by
    rw [← fst4_at]; exact l_is h1 k1 hv
  have s1 := sel_map neg (-1, 0) (hbE (dif c0 d0 3) (dif c0 d0 2) (dif c0 d0 1) (dif c0 d0 0), told c0 d0 u)
  have s2 := sel_map neg (sel (-1, 0) (hbE (dif c0 d0 3) (dif c0 d0 2) (dif c0 d0 1) (dif c0 d0 0), told c0 d0 u)) (hbE (dif c1 d1 3) (dif c1 d1 2) (dif c1 d1 1) (dif c1 d1 0), told c1 d1 v)
  have t1 := sel_map (mAt ms) (-1, none) (hbE (dif c0 d0 3) (dif c0 d0 2) (dif c0 d0 1) (dif c0 d0 0), idx4 (dif c0 d0 3) (dif c0 d0 2) (dif c0 d0 1) (dif c0 d0 0) 0 2 4 6)
  have t2 := sel_map (mAt ms) (sel (-1, none) (hbE (dif c0 d0 3) (dif c0 d0 2) (dif c0 d0 1) (dif c0 d0 0), idx4 (dif c0 d0 3) (dif c0 d0 2) (dif c0 d0 1) (dif c0 d0 0) 0 2 4 6)) (hbE (dif c1 d1 3) (dif c1 d1 2) (dif c1 d1 1) (dif c1 d1 0), idx4 (dif c1 d1 3) (dif c1 d1 2) (dif c1 d1 1) (dif c1 d1 0) 1 3 5 7)
  simp only at s1 s2 t1 t2
  rw [e0, n0] at s1
  rw [← s1, e1] at s2
  rw [← t1] at t2
  exact congrArg Prod.snd (s2.symm.trans t2)
theorem A3 {c0 c1 c2 d0 d1 d2 u v x i j : Int} (h0 : In16 c0) (h1 : In16 c1) (h2 : In16 c2) (k0 : In16 d0) (k1 : In16 d1) (k2 : In16 d2) (hu : Bit u) (hv : Bit v) (hx : Bit x) :
    decide (turnF [c0, c1, c2, i] [d0, d1, d2, j] [u, v, x] < 0) = decide ((tx3S c0 c1 c2 u v x).cps.toList < (tx3S d0 d1 d2 u v x).cps.toList) := by
  have F0 := fun p hp => @fig_is c0 h0 p hp
  have G0 := fun p hp => @fig_is d0 k0 p hp
  have F1 := fun p hp => @fig_is c1 h1 p hp
  have G1 := fun p hp => @fig_is d1 k1 p hp
  have F2 := fun p hp => @fig_is c2 h2 p hp
  have G2 := fun p hp => @fig_is d2 k2 p hp
  let ms : List Bool := [mns c0 d0 u 3, mns c1 d1 v 3, mns c2 d2 x 3, mns c0 d0 u 2, mns c1 d1 v 2, mns c2 d2 x 2, mns c0 d0 u 1, mns c1 d1 v 1, mns c2 d2 x 1, mns c0 d0 u 0, mns c1 d1 v 0, mns c2 d2 x 0]
  have R := lex_at (tx3S c0 c1 c2 u v x).cps.toList (tx3S d0 d1 d2 u v x).cps.toList [dif c0 d0 3, dif c1 d1 3, dif c2 d2 3, dif c0 d0 2, dif c1 d1 2, dif c2 d2 2, dif c0 d0 1, dif c1 d1 1, dif c2 d2 1, dif c0 d0 0, dif c1 d1 0, dif c2 d2 0] ms [] rfl rfl (by
    intro q hq
    match q, hq with
    | 0, _ => exact sgn_ne (F0 3 (by decide)) (G0 3 (by decide)) hu
    | 1, _ => exact sgn_ne (F1 3 (by decide)) (G1 3 (by decide)) hv
    | 2, _ => exact sgn_ne (F2 3 (by decide)) (G2 3 (by decide)) hx
    | 3, _ => exact sgn_ne (F0 2 (by decide)) (G0 2 (by decide)) hu
    | 4, _ => exact sgn_ne (F1 2 (by decide)) (G1 2 (by decide)) hv
    | 5, _ => exact sgn_ne (F2 2 (by decide)) (G2 2 (by decide)) hx
    | 6, _ => exact sgn_ne (F0 1 (by decide)) (G0 1 (by decide)) hu
    | 7, _ => exact sgn_ne (F1 1 (by decide)) (G1 1 (by decide)) hv
    | 8, _ => exact sgn_ne (F2 1 (by decide)) (G2 1 (by decide)) hx
    | 9, _ => exact sgn_ne (F0 0 (by decide)) (G0 0 (by decide)) hu
    | 10, _ => exact sgn_ne (F1 0 (by decide)) (G1 0 (by decide)) hv
    | 11, _ => exact sgn_ne (F2 0 (by decide)) (G2 0 (by decide)) hx
    | q + 12, hq => exact absurd hq (by simp)) (by
    intro q hq
    match q, hq with
    | 0, _ => rfl
    | 1, _ => rfl
    | 2, _ => rfl
    | 3, _ => rfl
    | 4, _ => rfl
    | 5, _ => rfl
    | 6, _ => rfl
    | 7, _ => rfl
    | 8, _ => rfl
    | 9, _ => rfl
    | 10, _ => rfl
    | 11, _ => rfl
    | q + 12, hq => exact absurd hq (by simp))
  rw [R, List.length_nil, ← A3all, turn3, hb_is h0 k0, hb_is h1 k1, hb_is h2 k2]
  have n0 : ((-1 : Int), neg 0) = (-1, mAt ms none) := rfl
  have e0 : neg (told c0 d0 u) = mAt ms (idx4 (dif c0 d0 3) (dif c0 d0 2) (dif c0 d0 1) (dif c0 d0 0) 0 3 6 9) := by
    rw [← fst4_at]; exact l_is h0 k0 hu
  have e1 : neg (told c1 d1 v) = mAt ms (idx4 (dif c1 d1 3) (dif c1 d1 2) (dif c1 d1 1) (dif c1 d1 0) 1 4 7 10) := by
    rw [← fst4_at]; exact l_is h1 k1 hv
  have e2 : neg (told c2 d2 x) = mAt ms (idx4 (dif c2 d2 3) (dif c2 d2 2) (dif c2 d2 1) (dif c2 d2 0) 2 5 8 11) := by
    rw [← fst4_at]; exact l_is h2 k2 hx
  have s1 := sel_map neg (-1, 0) (hbE (dif c0 d0 3) (dif c0 d0 2) (dif c0 d0 1) (dif c0 d0 0), told c0 d0 u)
  have s2 := sel_map neg (sel (-1, 0) (hbE (dif c0 d0 3) (dif c0 d0 2) (dif c0 d0 1) (dif c0 d0 0), told c0 d0 u)) (hbE (dif c1 d1 3) (dif c1 d1 2) (dif c1 d1 1) (dif c1 d1 0), told c1 d1 v)
  have s3 := sel_map neg (sel (sel (-1, 0) (hbE (dif c0 d0 3) (dif c0 d0 2) (dif c0 d0 1) (dif c0 d0 0), told c0 d0 u)) (hbE (dif c1 d1 3) (dif c1 d1 2) (dif c1 d1 1) (dif c1 d1 0), told c1 d1 v)) (hbE (dif c2 d2 3) (dif c2 d2 2) (dif c2 d2 1) (dif c2 d2 0), told c2 d2 x)
  have t1 := sel_map (mAt ms) (-1, none) (hbE (dif c0 d0 3) (dif c0 d0 2) (dif c0 d0 1) (dif c0 d0 0), idx4 (dif c0 d0 3) (dif c0 d0 2) (dif c0 d0 1) (dif c0 d0 0) 0 3 6 9)
  have t2 := sel_map (mAt ms) (sel (-1, none) (hbE (dif c0 d0 3) (dif c0 d0 2) (dif c0 d0 1) (dif c0 d0 0), idx4 (dif c0 d0 3) (dif c0 d0 2) (dif c0 d0 1) (dif c0 d0 0) 0 3 6 9)) (hbE (dif c1 d1 3) (dif c1 d1 2) (dif c1 d1 1) (dif c1 d1 0), idx4 (dif c1 d1 3) (dif c1 d1 2) (dif c1 d1 1) (dif c1 d1 0) 1 4 7 10)
  have t3 := sel_map (mAt ms) (sel (sel (-1, none) (hbE (dif c0 d0 3) (dif c0 d0 2) (dif c0 d0 1) (dif c0 d0 0), idx4 (dif c0 d0 3) (dif c0 d0 2) (dif c0 d0 1) (dif c0 d0 0) 0 3 6 9)) (hbE (dif c1 d1 3) (dif c1 d1 2) (dif c1 d1 1) (dif c1 d1 0), idx4 (dif c1 d1 3) (dif c1 d1 2) (dif c1 d1 1) (dif c1 d1 0) 1 4 7 10)) (hbE (dif c2 d2 3) (dif c2 d2 2) (dif c2 d2 1) (dif c2 d2 0), idx4 (dif c2 d2 3) (dif c2 d2 2) (dif c2 d2 1) (dif c2 d2 0) 2 5 8 11)
  simp only at s1 s2 s3 t1 t2 t3
  rw [e0, n0] at s1
  rw [← s1, e1] at s2
  rw [← s2, e2] at s3
  rw [← t1] at t2
  rw [← t2] at t3
  exact congrArg Prod.snd (s3.symm.trans t3)
end Mine
end
section -- MSrt
set_option linter.unusedVariables false
namespace Mine
section
variable (r : Nat → Int)
/-- the rank at a place -/
noncomputable def rk (p : Array Nat) (i : Nat) : Int := r (p.getD i 0)
noncomputable abbrev ltR (i j : Nat) : Bool := decide (r i < r j)
/-- sorted up to n -/
noncomputable def Srt (p : Array Nat) (n : Nat) : Prop := ∀ i j, i ≤ j → j < n → rk r p i ≤ rk r p j
noncomputable def Dsc (p : Array Nat) (n : Nat) : Prop := ∀ i j, i ≤ j → j < n → rk r p j ≤ rk r p i
variable {r}
theorem getD_of {p q : Array Nat} {i j : Nat} (h : p[i]? = q[j]?) : p.getD i 0 = q.getD j 0 := by
  rw [Array.getD_eq_getD_getElem?, Array.getD_eq_getD_getElem?, h]
theorem rk_rev {p : Array Nat} {i j : Nat} (hj : j ≤ p.size) (k : Nat) : rk r (kas_rev p i j) k = if i ≤ k ∧ k < j then rk r p (i + j - 1 - k) else rk r p k := by
  have e := getElem?_mirror_all (xs := p) (i := i) hj k
  unfold rk kas_rev
  split
  · rename_i h; rw [if_pos h] at e; exact congrArg r (getD_of e)
  · rename_i h; rw [if_neg h] at e; exact congrArg r (getD_of e)
theorem rk_bub {p : Array Nat} {src d : Nat} (hs : src < p.size) (hd : d ≤ src) (k : Nat) : rk r (bubble p src d) k = if k = src - d then rk r p src else if src - d < k ∧ k ≤ src then rk r p (k - 1) else rk r p k := by
  have e := getElem?_bubble hs d hd k
  by_cases h : k = src - d
  · rw [if_pos h] at e ⊢; exact congrArg r (getD_of e)
  · rw [if_neg h] at e ⊢
    by_cases h2 : src - d < k ∧ k ≤ src
    · rw [if_pos h2] at e ⊢; exact congrArg r (getD_of e)
    · rw [if_neg h2] at e ⊢; exact congrArg r (getD_of e)
theorem Srt.snoc {p : Array Nat} {n : Nat} (h : Srt r p n) (hn : 1 ≤ n) (hl : rk r p (n - 1) ≤ rk r p n) : Srt r p (n + 1) := by
  intro i j hij hj
  by_cases hj' : j < n
  · exact h i j hij hj'
  · have ej : j = n := by omega
    subst ej
    by_cases hi : i = j
    · subst hi; exact Int.le_refl _
    · have := h i (j - 1) (by omega) (by omega)
      omega
theorem Dsc.snoc {p : Array Nat} {n : Nat} (h : Dsc r p n) (hn : 1 ≤ n) (hl : rk r p n ≤ rk r p (n - 1)) : Dsc r p (n + 1) := by
  intro i j hij hj
  by_cases hj' : j < n
  · exact h i j hij hj'
  · have ej : j = n := by omega
    subst ej
    by_cases hi : i = j
    · subst hi; exact Int.le_refl _
    · have := h i (j - 1) (by omega) (by omega)
      omega
theorem asc_ok (p : Array Nat) : ∀ f m, 1 ≤ m → Srt r p m → (fun m' => m ≤ m' ∧ m' ≤ m + f ∧ Srt r p m' ∧ (m' = m + f ∨ rk r p m' < rk r p (m' - 1))) (evT (ltR r) (kas_asc p f m))
  | 0, m, hm, h => ⟨Nat.le_refl _, Nat.le_refl _, h, .inl rfl⟩
  | f + 1, m, hm, h => by
    show (fun m' => m ≤ m' ∧ m' ≤ m + (f + 1) ∧ Srt r p m' ∧ (m' = m + (f + 1) ∨ rk r p m' < rk r p (m' - 1))) (evT (ltR r) (if ltR r (p.getD m 0) (p.getD (m - 1) 0) = true then KasT.ret m else kas_asc p f (m + 1)))
    split
    · rename_i hb
      have hb : rk r p m < rk r p (m - 1) := of_decide_eq_true hb
      exact ⟨Nat.le_refl _, by show m ≤ m + (f + 1); omega, h, .inr hb⟩
    · rename_i hb
      have hb : ¬ rk r p m < rk r p (m - 1) := fun q => hb (decide_eq_true q)
      have ih := asc_ok p f (m + 1) (by omega) (h.snoc hm (by omega))
      obtain ⟨a, b, c, d⟩ := ih
      exact ⟨by omega, by omega, c, d.imp (fun e => by omega) id⟩
structure DI (r : Nat → Int) (p : Array Nat) (n q : Nat) : Prop where
  q1 : q + 1 ≤ n
  d : Dsc r p n
  e : ∀ i, n - (q + 1) ≤ i → i < n → rk r p i = rk r p (n - 1)
theorem Dsc.same {p p' : Array Nat} {n : Nat} (h : Dsc r p n) (e : ∀ k, rk r p' k = rk r p k) : Dsc r p' n := fun i j a b => by rw [e, e]; exact h i j a b
theorem rev_same {p : Array Nat} {i j : Nat} (hj : j ≤ p.size) (h : ∀ k, i ≤ k → k < j → rk r p k = rk r p (j - 1)) (k : Nat) : rk r (kas_rev p i j) k = rk r p k := by
  rw [rk_rev hj]
  split
  · rename_i q
    rw [h (i + j - 1 - k) (by omega) (by omega), h k q.1 q.2]
  · rfl
theorem desc_ok : ∀ f p n q, n + f ≤ p.size → DI r p n q → (fun (x : Array Nat × Nat × Nat) => x.1.size = p.size ∧ n ≤ x.2.1 ∧ x.2.1 ≤ n + f ∧ DI r x.1 x.2.1 x.2.2) (evT (ltR r) (kas_desc f p n q))
  | 0, p, n, q, hs, h => ⟨rfl, Nat.le_refl _, Nat.le_refl _, h⟩
  | f + 1, p, n, q, hs, h => by
    show (fun (x : Array Nat × Nat × Nat) => x.1.size = p.size ∧ n ≤ x.2.1 ∧ x.2.1 ≤ n + (f + 1) ∧ DI r x.1 x.2.1 x.2.2) (evT (ltR r)
      (if ltR r (p.getD n 0) (p.getD (n - 1) 0) = true then (if q > 0 then kas_desc f (kas_rev p (n - (q + 1)) n) (n + 1) 0 else kas_desc f p (n + 1) 0)
      else KasT.ask (p.getD (n - 1) 0) (p.getD n 0) fun d => if d = true then KasT.ret (p, n, q) else kas_desc f p (n + 1) (q + 1)))
    have q1 := h.q1
    split
    · rename_i hb
      have hb : rk r p n < rk r p (n - 1) := of_decide_eq_true hb
      have D1 : Dsc r p (n + 1) := h.d.snoc (by omega) (by omega)
      split
      · have es : ∀ k, rk r (kas_rev p (n - (q + 1)) n) k = rk r p k := rev_same (by omega) (fun k a b => h.e k a b)
        have hz : (kas_rev p (n - (q + 1)) n).size = p.size := kas_rev_size _ _
        obtain ⟨a, b, c, d⟩ := desc_ok f (kas_rev p (n - (q + 1)) n) (n + 1) 0 (by omega) ⟨by omega, D1.same es, fun i hi hj => by rw [show i = n + 1 - 1 by omega]⟩
        exact ⟨a.trans hz, by omega, by omega, d⟩
      · obtain ⟨a, b, c, d⟩ := desc_ok f p (n + 1) 0 (by omega) ⟨by omega, D1, fun i hi hj => by rw [show i = n + 1 - 1 by omega]⟩
        exact ⟨a, by omega, by omega, d⟩
    · rename_i hb
      have hb : ¬ rk r p n < rk r p (n - 1) := fun q => hb (decide_eq_true q)
      show (fun (x : Array Nat × Nat × Nat) => x.1.size = p.size ∧ n ≤ x.2.1 ∧ x.2.1 ≤ n + (f + 1) ∧ DI r x.1 x.2.1 x.2.2) (evT (ltR r) (if ltR r (p.getD (n - 1) 0) (p.getD n 0) = true then KasT.ret (p, n, q) else kas_desc f p (n + 1) (q + 1)))
      split
      · exact ⟨rfl, Nat.le_refl _, by show n ≤ n + (f + 1); omega, h⟩
      · rename_i hc
        have hc : ¬ rk r p (n - 1) < rk r p n := fun q => hc (decide_eq_true q)
        obtain ⟨a, b, c, d⟩ := desc_ok f p (n + 1) (q + 1) (by omega) ⟨by omega, h.d.snoc (by omega) (by omega), fun i hi hj => by
          by_cases hin : i = n
          · subst hin; rfl
          · have := h.e i (by omega) (by omega)
            rw [this, show n + 1 - 1 = n by omega]
            omega⟩
        exact ⟨a, by omega, by omega, d⟩
theorem Dsc.turn {p : Array Nat} {n : Nat} (hn : n ≤ p.size) (h : Dsc r p n) : Srt r (kas_rev p 0 n) n := by
  intro i j hij hj
  rw [rk_rev hn, rk_rev hn, if_pos ⟨Nat.zero_le _, by omega⟩, if_pos ⟨Nat.zero_le _, hj⟩]
  exact h _ _ (by omega) (by omega)
noncomputable abbrev CntOk (r : Nat → Int) (p : Array Nat) (nrem : Nat) (x : Nat × Array Nat) : Prop := x.2.size = p.size ∧ 1 ≤ x.1 ∧ x.1 ≤ nrem ∧ Srt r x.2 x.1
theorem tail3_ok {n nrem : Nat} {p : Array Nat} (h1 : 1 ≤ n) (hn : n ≤ nrem) (hs : nrem ≤ p.size) (h : Dsc r p n) : CntOk r p nrem (evT (ltR r) (kas_tail3 n nrem p)) := by
  unfold kas_tail3
  rw [evT_bind]
  obtain ⟨a, b, c, _⟩ := asc_ok (kas_rev p 0 n) (nrem - n) n h1 (h.turn (by omega))
  exact ⟨kas_rev_size _ _, Nat.le_trans h1 a, by show evT (ltR r) (kas_asc (kas_rev p 0 n) (nrem - n) n) ≤ nrem; omega, c⟩
theorem descPart_ok {n nrem : Nat} {p : Array Nat} (h1 : 1 ≤ n) (hn : n < nrem) (hs : nrem ≤ p.size) (h : Dsc r p (n + 1)) : CntOk r p nrem (evT (ltR r) (kas_descPart n nrem p)) := by
  unfold kas_descPart
  rw [evT_bind]
  obtain ⟨a, b, c, d⟩ := desc_ok (nrem - (n + 1)) p (n + 1) 0 (by omega) ⟨by omega, h, fun i hi hj => by rw [show i = n + 1 - 1 by omega]⟩
  generalize evT (ltR r) (kas_desc (nrem - (n + 1)) p (n + 1) 0) = x at a b c d ⊢
  have q1 := d.q1
  split
  · have es : ∀ k, rk r (kas_rev x.1 (x.2.1 - (x.2.2 + 1)) x.2.1) k = rk r x.1 k := rev_same (by omega) (fun k a b => d.e k a b)
    have hz : (kas_rev x.1 (x.2.1 - (x.2.2 + 1)) x.2.1).size = p.size := (kas_rev_size _ _).trans a
    obtain ⟨u, v⟩ := tail3_ok (r := r) (n := x.2.1) (nrem := nrem) (p := kas_rev x.1 (x.2.1 - (x.2.2 + 1)) x.2.1) (by omega) (by omega) (by omega) (d.d.same es)
    exact ⟨u.trans hz, v⟩
  · obtain ⟨u, v⟩ := tail3_ok (r := r) (n := x.2.1) (nrem := nrem) (p := x.1) (by omega) (by omega) (by omega) d.d
    exact ⟨u.trans a, v⟩
theorem count_ok {nrem : Nat} {p : Array Nat} (h1 : 1 ≤ nrem) (hs : nrem ≤ p.size) : CntOk r p nrem (evT (ltR r) (kas_count nrem p)) := by
  unfold kas_count
  rw [evT_bind]
  have S1 : Srt r p 1 := fun i j a b => by rw [show i = j by omega]; exact Int.le_refl _
  obtain ⟨a, b, c, d⟩ := asc_ok p (nrem - 1) 1 (Nat.le_refl _) S1
  generalize evT (ltR r) (kas_asc p (nrem - 1) 1) = m at a b c d ⊢
  split
  · rename_i e
    exact ⟨rfl, a, by show m ≤ nrem; omega, c⟩
  · rename_i e
    have hm : m < nrem := by
      have : m ≠ nrem := by simpa using e
      omega
    have hd : rk r p m < rk r p (m - 1) := d.resolve_left (by omega)
    split
    · rename_i hm1
      show CntOk r p nrem (evT (ltR r) (if ltR r (p.getD 0 0) (p.getD (m - 1) 0) = true then KasT.ret (m, p) else kas_descPart m nrem (kas_rev p 0 m)))
      split
      · exact ⟨rfl, a, by show m ≤ nrem; omega, c⟩
      · rename_i hb
        have hb : ¬ rk r p 0 < rk r p (m - 1) := fun q => hb (decide_eq_true q)
        have eq : ∀ k, 0 ≤ k → k < m → rk r p k = rk r p (m - 1) := fun k _ hk => by
          have u := c 0 k (Nat.zero_le _) hk
          have v := c k (m - 1) (by omega) (by omega)
          omega
        have es : ∀ k, rk r (kas_rev p 0 m) k = rk r p k := rev_same (by omega) eq
        have D0 : Dsc r p m := fun i j hij hj => by rw [eq i (Nat.zero_le _) (by omega), eq j (Nat.zero_le _) hj]; exact Int.le_refl _
        have hz : (kas_rev p 0 m).size = p.size := kas_rev_size _ _
        obtain ⟨u, v⟩ := descPart_ok (r := r) (n := m) (nrem := nrem) (p := kas_rev p 0 m) a hm (by omega) ((D0.snoc a (by omega)).same es)
        exact ⟨u.trans hz, v⟩
    · rename_i hm1
      have em : m = 1 := by omega
      subst em
      have D0 : Dsc r p 1 := fun i j a b => by rw [show i = j by omega]; exact Int.le_refl _
      exact descPart_ok (by omega) hm hs (D0.snoc (by omega) (by omega))
theorem place_ok {p : Array Nat} {k : Nat} (S : Srt r p k) : ∀ f l t, l ≤ t → t ≤ k → t - l ≤ f → (∀ i, i < l → rk r p i ≤ rk r p k) → (∀ i, t ≤ i → i < k → rk r p k ≤ rk r p i) →
    (fun x => x ≤ k ∧ (∀ i, i < x → rk r p i ≤ rk r p k) ∧ (∀ i, x ≤ i → i < k → rk r p k ≤ rk r p i)) (evT (ltR r) (kas_place p k f l t))
  | 0, l, t, a, b, c, d, e => ⟨by show l ≤ k; omega, d, fun i hi hk => e i (by have : l ≤ i := hi; omega) hk⟩
  | f + 1, l, t, a, b, c, d, e => by
    unfold kas_place
    split
    · exact ⟨by show l ≤ k; omega, d, fun i hi hk => e i (by have : l ≤ i := hi; omega) hk⟩
    · rename_i hlt
      show (fun x => x ≤ k ∧ (∀ i, i < x → rk r p i ≤ rk r p k) ∧ (∀ i, x ≤ i → i < k → rk r p k ≤ rk r p i)) (evT (ltR r) (if ltR r (p.getD k 0) (p.getD ((l + t) / 2) 0) = true then kas_place p k f l ((l + t) / 2) else kas_place p k f ((l + t) / 2 + 1) t))
      split
      · rename_i hb
        have hb : rk r p k < rk r p ((l + t) / 2) := of_decide_eq_true hb
        exact place_ok S f l ((l + t) / 2) (by omega) (by omega) (by omega) d fun i hi hk => by
          have := S ((l + t) / 2) i hi hk
          omega
      · rename_i hb
        have hb : ¬ rk r p k < rk r p ((l + t) / 2) := fun q => hb (decide_eq_true q)
        exact place_ok S f ((l + t) / 2 + 1) t (by omega) b (by omega) (fun i hi => by
          have := S i ((l + t) / 2) (by omega) (by omega)
          omega) e
theorem bin_ok : ∀ f p k, k + f ≤ p.size → Srt r p k → Srt r (evT (ltR r) (kas_bin f p k)) (k + f)
  | 0, p, k, hs, S => S
  | f + 1, p, k, hs, S => by
    show Srt r (evT (ltR r) ((kas_place p k k 0 k).bind fun l => kas_bin f (bubble p k (k - l)) (k + 1))) (k + (f + 1))
    rw [evT_bind]
    obtain ⟨a, b, c⟩ := place_ok S k 0 k (by omega) (by omega) (by omega) (fun i hi => absurd hi (by omega)) (fun i h1 h2 => absurd h1 (by omega))
    generalize evT (ltR r) (kas_place p k k 0 k) = l at a b c ⊢
    have hz : (bubble p k (k - l)).size = p.size := bubble_size _ _ _
    have S' : Srt r (bubble p k (k - l)) (k + 1) := by
      intro i j hij hj
      rw [rk_bub (by omega) (by omega), rk_bub (by omega) (by omega), show k - (k - l) = l by omega]
      (repeat' split) <;> first | omega | exact Int.le_refl _ | exact b _ (by omega) | exact c _ (by omega) (by omega) | exact S _ _ (by omega) (by omega) | skip
    have := bin_ok f (bubble p k (k - l)) (k + 1) (by omega) S'
    rw [show k + (f + 1) = k + 1 + f by omega]
    exact this
theorem sort_ok {n : Nat} (hn : 1 ≤ n) : Srt r (sortP (ltR r) n) n := by
  unfold sortP kas_sort
  rw [evT_bind]
  have hz : (List.toArray (List.range n)).size = n := by simp
  obtain ⟨a, b, c, d⟩ := count_ok (r := r) (nrem := n) (p := List.toArray (List.range n)) hn (by omega)
  generalize evT (ltR r) (kas_count n (List.toArray (List.range n))) = x at a b c d ⊢
  split
  · have := bin_ok (r := r) (n - max x.1 1) x.2 (max x.1 1) (by omega) (by rw [show max x.1 1 = x.1 by omega]; exact d)
    rw [show max x.1 1 + (n - max x.1 1) = n by omega] at this
    exact this
  · have e : x.1 = n := by omega
    rw [e] at d
    exact d
end
end Mine
end
section -- MLawC
namespace Mine
/-- the first place at which two rows differ, the length if none -/
noncomputable def fd : List Nat → List Nat → Nat
  | a :: x, b :: y => if a = b then fd x y + 1 else 0
  | _, _ => 0
theorem fd_le : ∀ x y, fd x y ≤ x.length
  | [], _ => by simp [fd]
  | _ :: _, [] => by simp [fd]
  | a :: x, b :: y => by
    have := fd_le x y
    unfold fd; split <;> simp <;> omega
theorem fd_eq : ∀ x y i, i < fd x y → x.getD i 0 = y.getD i 0
  | [], _, i, h => by simp [fd] at h
  | _ :: _, [], i, h => by simp [fd] at h
  | a :: x, b :: y, i, h => by
    unfold fd at h
    split at h
    · rename_i e; subst e
      cases i with
      | zero => rfl
      | succ i => exact fd_eq x y i (by omega)
    · omega
theorem fd_ne : ∀ x y, x.length = y.length → fd x y < x.length → x.getD (fd x y) 0 ≠ y.getD (fd x y) 0
  | [], _, _, h => by simp at h
  | _ :: _, [], e, h => by simp at e
  | a :: x, b :: y, e, h => by
    unfold fd at h ⊢
    split
    · rename_i q; rw [if_pos q] at h
      exact fd_ne x y (by simpa using e) (by simpa using h)
    · exact ‹_›
theorem fd_min : ∀ x y z : List Nat, x.length = y.length → y.length = z.length → ¬ y < x → ¬ z < y → fd x z = min (fd x y) (fd y z)
  | [], y, z, h1, h2, _, _ => by
    have : y = [] := List.length_eq_zero_iff.mp h1.symm
    subst this
    simp [fd]
  | a :: x, [], _, h1, _, _, _ => by simp at h1
  | a :: x, b :: y, [], _, h2, _, _ => by simp at h2
  | a :: x, b :: y, c :: z, h1, h2, h3, h4 => by
    rw [List.cons_lt_cons_iff] at h3 h4
    have ih := fd_min x y z (by simpa using h1) (by simpa using h2)
    unfold fd
    by_cases e1 : a = b
    · subst e1
      by_cases e2 : a = c
      · subst e2
        rw [if_pos rfl, if_pos rfl, if_pos rfl, ih (fun q => h3 (.inr ⟨rfl, q⟩)) (fun q => h4 (.inr ⟨rfl, q⟩))]
        omega
      · rw [if_neg e2, if_pos rfl, if_neg e2]; omega
    · have l1 : a < b := by
        have : ¬ b < a := fun q => h3 (.inl q)
        omega
      have l2 : ¬ c < b := fun q => h4 (.inl q)
      rw [if_neg e1, if_neg (by omega)]; omega
/-- what the parting tells, by the first place -/
theorem part_fd (x y : List Nat) (m : Nat) (hm : 0 < m) (hx : x.length = 4 * m) (hy : y.length = 4 * m) : partF x y (4 * m) (m : Int) = 3 - ((fd x y / m : Nat) : Int) := by
  have hl := fd_le x y
  have key : (List.range (4 * m)).filter (fun j => x.getD j 0 != y.getD j 0) = if fd x y < 4 * m then fd x y :: ((List.range (4 * m)).filter (fun j => x.getD j 0 != y.getD j 0)).tail else [] := by
    have sp : List.range (4 * m) = List.range (fd x y) ++ (List.range (4 * m - fd x y)).map (fd x y + ·) := by
      have := List.range_add (n := fd x y) (m := 4 * m - fd x y)
      rw [show fd x y + (4 * m - fd x y) = 4 * m by omega] at this
      exact this
    have none : (List.range (fd x y)).filter (fun j => x.getD j 0 != y.getD j 0) = [] := by
      rw [List.filter_eq_nil_iff]
      intro j hj
      rw [fd_eq x y j (List.mem_range.mp hj)]
      simp
    split
    · rename_i h
      have ne := fd_ne x y (hx.trans hy.symm) (by omega)
      rw [sp, List.filter_append, none, List.nil_append]
      obtain ⟨q, hq⟩ : ∃ q, 4 * m - fd x y = q + 1 := ⟨4 * m - fd x y - 1, by omega⟩
      rw [hq, List.range_succ_eq_map, List.map_cons, Nat.add_zero, List.filter_cons_of_pos (by simpa using ne)]
      rfl
    · rename_i h
      rw [show 4 * m = fd x y by omega]
      exact none
  unfold partF dfs
  rw [key]
  by_cases h : fd x y < 4 * m
  · rw [if_pos h]
    show 3 - Int.fdiv ((fd x y : Nat) : Int) (m : Int) = _
    rw [Int.fdiv_eq_ediv_of_nonneg _ (by omega)]
    rfl
  · rw [if_neg h]
    have e : fd x y = 4 * m := by omega
    show (-1 : Int) = _
    rw [e, Nat.mul_div_cancel _ hm]
    rfl
theorem part_max (x y z : List Nat) (m : Nat) (hm : 0 < m) (hx : x.length = 4 * m) (hy : y.length = 4 * m) (hz : z.length = 4 * m) (h1 : ¬ y < x) (h2 : ¬ z < y) :
    partF x z (4 * m) (m : Int) = max (partF x y (4 * m) (m : Int)) (partF y z (4 * m) (m : Int)) := by
  rw [part_fd x z m hm hx hz, part_fd x y m hm hx hy, part_fd y z m hm hy hz, fd_min x y z (hx.trans hy.symm) (hy.trans hz.symm) h1 h2]
  rcases Nat.le_total (fd x y) (fd y z) with h | h
  · rw [Nat.min_eq_left h]
    have := Nat.div_le_div_right (c := m) h
    omega
  · rw [Nat.min_eq_right h]
    have := Nat.div_le_div_right (c := m) h
    omega
/-- the number that a row of figures writes to the base 64 -/
noncomputable def rkL : List Nat → Int
  | [] => 0
  | a :: x => a * 64 ^ x.length + rkL x
theorem rkL_b : ∀ x : List Nat, (∀ a ∈ x, a < 64) → 0 ≤ rkL x ∧ rkL x < 64 ^ x.length
  | [], _ => by decide
  | a :: x, h => by
    obtain ⟨l, u⟩ := rkL_b x fun b hb => h b (.tail _ hb)
    have ha : a < 64 := h a (.head _)
    have P : (0 : Int) < 64 ^ x.length := Int.pow_pos (by decide)
    unfold rkL
    rw [List.length_cons, Int.pow_succ]
    generalize (64 : Int) ^ x.length = p at *
    have h0 : (0 : Int) ≤ (a : Int) * p := Int.mul_nonneg (by omega) (by omega)
    have h1 : ((a : Int) + 1) * p ≤ 64 * p := Int.mul_le_mul_of_nonneg_right (by omega) (by omega)
    rw [Int.add_mul, Int.one_mul] at h1
    constructor
    · omega
    · rw [Int.mul_comm p 64]; omega
theorem rkL_lt : ∀ x y : List Nat, x.length = y.length → (∀ a ∈ x, a < 64) → (∀ a ∈ y, a < 64) → (x < y ↔ rkL x < rkL y)
  | [], [], _, _, _ => by simp [rkL]
  | [], _ :: _, h, _, _ => by simp at h
  | _ :: _, [], h, _, _ => by simp at h
  | a :: x, b :: y, h, hx, hy => by
    have hl : x.length = y.length := by simpa using h
    have ih := rkL_lt x y hl (fun c hc => hx c (.tail _ hc)) (fun c hc => hy c (.tail _ hc))
    obtain ⟨l1, u1⟩ := rkL_b x fun b hb => hx b (.tail _ hb)
    obtain ⟨l2, u2⟩ := rkL_b y fun b hb => hy b (.tail _ hb)
    rw [List.cons_lt_cons_iff, ih]
    show _ ↔ (a : Int) * 64 ^ x.length + rkL x < (b : Int) * 64 ^ y.length + rkL y
    rw [← hl] at u2 ⊢
    generalize (64 : Int) ^ x.length = p at *
    rcases Nat.lt_trichotomy a b with q | q | q
    · have h1 : ((a : Int) + 1) * p ≤ b * p := Int.mul_le_mul_of_nonneg_right (by omega) (by omega)
      rw [Int.add_mul, Int.one_mul] at h1
      exact ⟨fun _ => by omega, fun _ => .inl q⟩
    · subst q
      exact ⟨fun z => by rcases z with z | z <;> omega, fun z => .inr ⟨rfl, by omega⟩⟩
    · have h1 : ((b : Int) + 1) * p ≤ a * p := Int.mul_le_mul_of_nonneg_right (by omega) (by omega)
      rw [Int.add_mul, Int.one_mul] at h1
      exact ⟨fun z => by rcases z with z | z <;> omega, fun z => by omega⟩
/-- texts, in the order that the sort finds, stand in order -/
theorem sorted_texts (t : Nat → List Nat) (lt : Nat → Nat → Bool) (n L : Nat) (hn : 1 ≤ n) (hl : ∀ i, (t i).length = L) (hb : ∀ i, ∀ a ∈ t i, a < 64) (hlt : ∀ i j, lt i j = decide (t i < t j)) :
    ∀ i j, i ≤ j → j < n → ¬ t ((sortP lt n).getD j 0) < t ((sortP lt n).getD i 0) := by
  have e : lt = ltR (fun i => rkL (t i)) := by
    funext i j
    rw [hlt]
    exact decide_eq_decide.mpr (rkL_lt _ _ ((hl i).trans (hl j).symm) (hb i) (hb j))
  intro i j hij hj
  have := sort_ok (r := fun i => rkL (t i)) hn i j hij hj
  rw [← e] at this
  rw [rkL_lt _ _ ((hl _).trans (hl _).symm) (hb _) (hb _)]
  unfold rk at this
  simp only at this
  omega
/-- the far is the greatest of the near -/
theorem far_is (D : Nat → Nat → Int) (N : Nat) (h : ∀ i j k, i ≤ j → j ≤ k → k < N → D i k = max (D i j) (D j k)) (st : List Int) (hs : ∀ k, k + 1 < N → st[k]? = some (D k (k + 1))) :
    ∀ m n, n + m + 1 < N → ((st.drop n).take (m + 1)) ≠ [] ∧ ∀ a l, (st.drop n).take (m + 1) = a :: l → l.foldl max a = D n (n + m + 1)
  | 0, n, hn => by
    have e : st.drop n = D n (n + 1) :: st.drop (n + 1) := by
      obtain ⟨q, e⟩ := List.getElem?_eq_some_iff.mp (hs n (by omega))
      rw [List.drop_eq_getElem_cons q, e]
    rw [e]
    constructor
    · simp
    · intro a l hq
      simp at hq
      obtain ⟨rfl, rfl⟩ := hq
      rfl
  | m + 1, n, hn => by
    obtain ⟨ne, ih⟩ := far_is D N h st hs m n (by omega)
    have e : (st.drop n).take (m + 1 + 1) = (st.drop n).take (m + 1) ++ [D (n + m + 1) (n + m + 1 + 1)] := by
      rw [List.take_add_one]
      congr 1
      rw [List.getElem?_drop, show n + (m + 1) = n + m + 1 by omega, hs (n + m + 1) (by omega)]
      rfl
    cases hq : (st.drop n).take (m + 1) with
    | nil => exact absurd hq ne
    | cons a l =>
      rw [e, hq]
      refine ⟨by simp, fun a' l' hc => ?_⟩
      rw [List.cons_append] at hc
      injection hc with h1 h2
      subst h1 h2
      rw [List.foldl_append, ih a l hq]
      show max (D n (n + m + 1)) (D (n + m + 1) (n + m + 1 + 1)) = _
      rw [← h n (n + m + 1) (n + m + 1 + 1) (by omega) (by omega) (by omega)]
      rfl
end Mine
end
section -- MXb
set_option maxRecDepth 100000
set_option linter.constructorNameAsVariable false
set_option linter.unusedVariables false
namespace Mine
/-- the points, the axes turned, the texts, as plain data -/
noncomputable def PF (ax : Nat) (xs : List Int) (j : Nat) : List Int := match ax with
  | 2 => [crd (xs.getD j 0) 0, crd (xs.getD j 0) 1, (j : Int)]
  | _ => [crd (xs.getD j 0) 0, crd (xs.getD j 0) 1, crd (xs.getD j 0) 2, (j : Int)]
noncomputable def UF (ax : Nat) (hx : Int) : List Int := match ax with
  | 2 => [fig hx 1, fig hx 2]
  | _ => [fig hx 1, fig hx 2, fig hx 3]
noncomputable def txF (ax : Nat) (hx : Int) (xs : List Int) (j : Nat) : Str := match ax with
  | 2 => tx2S (crd (xs.getD j 0) 0) (crd (xs.getD j 0) 1) (fig hx 1) (fig hx 2)
  | _ => tx3S (crd (xs.getD j 0) 0) (crd (xs.getD j 0) 1) (crd (xs.getD j 0) 2) (fig hx 1) (fig hx 2) (fig hx 3)
theorem crd_in (x : Int) (k : Nat) : In16 (crd x k) := ⟨Int.fmod_nonneg_of_pos _ (by decide), Int.fmod_lt_of_pos _ (by decide)⟩
theorem fig_bit (x : Int) (p : Nat) : Bit (fig x p) := by
  have h1 : 0 ≤ fig x p := Int.fmod_nonneg_of_pos _ (by decide)
  have h2 : fig x p < 2 := Int.fmod_lt_of_pos _ (by decide)
  show fig x p = 0 ∨ fig x p = 1
  omega
theorem sgn_lt (x : Int) (p : Nat) (u : Int) : sgn x p u < 64 := by unfold sgn; split <;> decide
theorem pl_ok {ax : Nat} {xs : List Int} {hx : Int} (hax : ax = 2 ∨ ax = 3) (h5 : 5 ≤ xs.length) (h12 : xs.length ≤ 12) : Pl xs.length ax (PF ax xs) (UF ax hx) (txF ax hx xs) := by
  rcases hax with rfl | rfl
  · refine ⟨h5, h12, by decide, by decide, fun j => rfl, rfl, fun j => rfl, fun i j => ?_, fun i j => ?_, fun i a ha => ?_⟩
    · exact A2 (crd_in _ _) (crd_in _ _) (crd_in _ _) (crd_in _ _) (fig_bit _ _) (fig_bit _ _)
    · exact B2 (crd_in _ _) (crd_in _ _) (crd_in _ _) (crd_in _ _) (fig_bit _ _) (fig_bit _ _)
    · have h : a ∈ [sgn (crd (xs.getD i 0) 0) 3 (fig hx 1), sgn (crd (xs.getD i 0) 1) 3 (fig hx 2), sgn (crd (xs.getD i 0) 0) 2 (fig hx 1), sgn (crd (xs.getD i 0) 1) 2 (fig hx 2), sgn (crd (xs.getD i 0) 0) 1 (fig hx 1), sgn (crd (xs.getD i 0) 1) 1 (fig hx 2), sgn (crd (xs.getD i 0) 0) 0 (fig hx 1), sgn (crd (xs.getD i 0) 1) 0 (fig hx 2)] := ha
      simp only [List.mem_cons, List.not_mem_nil, or_false] at h
      rcases h with rfl | rfl | rfl | rfl | rfl | rfl | rfl | rfl <;> exact sgn_lt _ _ _
  · refine ⟨h5, h12, by decide, by decide, fun j => rfl, rfl, fun j => rfl, fun i j => ?_, fun i j => ?_, fun i a ha => ?_⟩
    · exact A3 (crd_in _ _) (crd_in _ _) (crd_in _ _) (crd_in _ _) (crd_in _ _) (crd_in _ _) (fig_bit _ _) (fig_bit _ _) (fig_bit _ _)
    · exact B3 (crd_in _ _) (crd_in _ _) (crd_in _ _) (crd_in _ _) (crd_in _ _) (crd_in _ _) (fig_bit _ _) (fig_bit _ _) (fig_bit _ _)
    · have h : a ∈ [sgn (crd (xs.getD i 0) 0) 3 (fig hx 1), sgn (crd (xs.getD i 0) 1) 3 (fig hx 2), sgn (crd (xs.getD i 0) 2) 3 (fig hx 3), sgn (crd (xs.getD i 0) 0) 2 (fig hx 1), sgn (crd (xs.getD i 0) 1) 2 (fig hx 2), sgn (crd (xs.getD i 0) 2) 2 (fig hx 3), sgn (crd (xs.getD i 0) 0) 1 (fig hx 1), sgn (crd (xs.getD i 0) 1) 1 (fig hx 2), sgn (crd (xs.getD i 0) 2) 1 (fig hx 3), sgn (crd (xs.getD i 0) 0) 0 (fig hx 1), sgn (crd (xs.getD i 0) 1) 0 (fig hx 2), sgn (crd (xs.getD i 0) 2) 0 (fig hx 3)] := ha
      simp only [List.mem_cons, List.not_mem_nil, or_false] at h
      rcases h with rfl | rfl | rfl | rfl | rfl | rfl | rfl | rfl | rfl | rfl | rfl | rfl <;> exact sgn_lt _ _ _
/-- the run that fits a script -/
noncomputable def PreAny (w : World) (h : Heap) (d : Drawn) (tk : Nat) (os : OsState) (vs : List Value) : Prop := ∃ ax hv hx xs ob, PreRan w h d tk os vs ax hv hx xs ob ∧ ObOk ob ∧ (ax = 2 ∨ ax = 3) ∧ 5 ≤ xs.length ∧ xs.length ≤ 12
theorem ob1 {x : Int} {a : Int} (e : 2 + Int.fmod x 2 = a) : ObOk [obA x a] := fun p hp => by
  rcases List.mem_cons.mp hp with rfl | hp
  · exact e
  · cases hp
theorem ob3 {x : Int} {a : Int} {n : Nat} (e : 2 + Int.fmod x 2 = a) (hn : n + 9 ≤ sizeLine) : ObOk [obS (n + 8), obA x a, obS (n + 8 + 1)] := fun p hp => by
  have z : ∀ m, m ≤ sizeLine → (obS m).1 = (obS m).2 := fun m hm => by
    show (((min m sizeLine : Nat) : Int)) = (m : Int)
    rw [Nat.min_eq_left hm]
  rcases List.mem_cons.mp hp with rfl | hp
  · exact z _ (by omega)
  · rcases List.mem_cons.mp hp with rfl | hp
    · exact e
    · rcases List.mem_cons.mp hp with rfl | hp
      · exact z _ (by omega)
      · cases hp
theorem par (x : Int) : 2 + Int.fmod x 2 = (2 : Int) ∨ 2 + Int.fmod x 2 = (3 : Int) := by
  have h1 : 0 ≤ Int.fmod x 2 := Int.fmod_nonneg_of_pos _ (by decide)
  have h2 : Int.fmod x 2 < 2 := Int.fmod_lt_of_pos _ (by decide)
  omega
theorem ia {vs : List Value} {ns : List Int} (I : IntsAre vs ns) : vs = [] ∨ ∃ x t vs' ns', vs = .int x t :: vs' ∧ IntsAre vs' ns' := by
  cases I with
  | nil => exact .inl rfl
  | cons x t I => exact .inr ⟨x, t, _, _, rfl, I⟩
section
variable (b : Bool) (w : World) (h : Heap) (d : Drawn) (tk : Nat) (os : OsState)
theorem pa0 : PreAny (pin1 w b) h d tk os [] := by
  cases b
  · exact ⟨_, _, _, _, _, pr_0_2_f w h d tk os, ob1 (by decide), .inl rfl, Nat.le_of_ble_eq_true rfl, Nat.le_of_ble_eq_true rfl⟩
  · exact ⟨_, _, _, _, _, pr_0_2_t w h d tk os, ob1 (by decide), .inl rfl, Nat.le_of_ble_eq_true rfl, Nat.le_of_ble_eq_true rfl⟩
theorem pa1 (x0 : Int) (t0 : Tok) : PreAny (pin1 w b) h d tk os [.int x0 t0] := by
  rcases par x0 with e | e <;> cases b
  · exact ⟨_, _, _, _, _, pr_1_2_f w h d tk os x0 t0, ob1 e, .inl rfl, Nat.le_of_ble_eq_true rfl, Nat.le_of_ble_eq_true rfl⟩
  · exact ⟨_, _, _, _, _, pr_1_2_t w h d tk os x0 t0, ob1 e, .inl rfl, Nat.le_of_ble_eq_true rfl, Nat.le_of_ble_eq_true rfl⟩
  · exact ⟨_, _, _, _, _, pr_1_3_f w h d tk os x0 t0, ob1 e, .inr rfl, Nat.le_of_ble_eq_true rfl, Nat.le_of_ble_eq_true rfl⟩
  · exact ⟨_, _, _, _, _, pr_1_3_t w h d tk os x0 t0, ob1 e, .inr rfl, Nat.le_of_ble_eq_true rfl, Nat.le_of_ble_eq_true rfl⟩
theorem pa2 (x0 x1 : Int) (t0 t1 : Tok) : PreAny (pin1 w b) h d tk os [.int x0 t0, .int x1 t1] := by
  rcases par x0 with e | e <;> cases b
  · exact ⟨_, _, _, _, _, pr_2_2_f w h d tk os x0 x1 t0 t1, ob1 e, .inl rfl, Nat.le_of_ble_eq_true rfl, Nat.le_of_ble_eq_true rfl⟩
  · exact ⟨_, _, _, _, _, pr_2_2_t w h d tk os x0 x1 t0 t1, ob1 e, .inl rfl, Nat.le_of_ble_eq_true rfl, Nat.le_of_ble_eq_true rfl⟩
  · exact ⟨_, _, _, _, _, pr_2_3_f w h d tk os x0 x1 t0 t1, ob1 e, .inr rfl, Nat.le_of_ble_eq_true rfl, Nat.le_of_ble_eq_true rfl⟩
  · exact ⟨_, _, _, _, _, pr_2_3_t w h d tk os x0 x1 t0 t1, ob1 e, .inr rfl, Nat.le_of_ble_eq_true rfl, Nat.le_of_ble_eq_true rfl⟩
theorem pa3 (x0 x1 x2 : Int) (t0 t1 t2 : Tok) : PreAny (pin1 w b) h d tk os [.int x0 t0, .int x1 t1, .int x2 t2] := by
  rcases par x0 with e | e <;> cases b
  · exact ⟨_, _, _, _, _, pr_3_2_f w h d tk os x0 x1 x2 t0 t1 t2, ob1 e, .inl rfl, Nat.le_of_ble_eq_true rfl, Nat.le_of_ble_eq_true rfl⟩
  · exact ⟨_, _, _, _, _, pr_3_2_t w h d tk os x0 x1 x2 t0 t1 t2, ob1 e, .inl rfl, Nat.le_of_ble_eq_true rfl, Nat.le_of_ble_eq_true rfl⟩
  · exact ⟨_, _, _, _, _, pr_3_3_f w h d tk os x0 x1 x2 t0 t1 t2, ob1 e, .inr rfl, Nat.le_of_ble_eq_true rfl, Nat.le_of_ble_eq_true rfl⟩
  · exact ⟨_, _, _, _, _, pr_3_3_t w h d tk os x0 x1 x2 t0 t1 t2, ob1 e, .inr rfl, Nat.le_of_ble_eq_true rfl, Nat.le_of_ble_eq_true rfl⟩
theorem pa4 (x0 x1 x2 x3 : Int) (t0 t1 t2 t3 : Tok) : PreAny (pin1 w b) h d tk os [.int x0 t0, .int x1 t1, .int x2 t2, .int x3 t3] := by
  rcases par x0 with e | e <;> cases b
  · exact ⟨_, _, _, _, _, pr_4_2_f w h d tk os x0 x1 x2 x3 t0 t1 t2 t3, ob1 e, .inl rfl, Nat.le_of_ble_eq_true rfl, Nat.le_of_ble_eq_true rfl⟩
  · exact ⟨_, _, _, _, _, pr_4_2_t w h d tk os x0 x1 x2 x3 t0 t1 t2 t3, ob1 e, .inl rfl, Nat.le_of_ble_eq_true rfl, Nat.le_of_ble_eq_true rfl⟩
  · exact ⟨_, _, _, _, _, pr_4_3_f w h d tk os x0 x1 x2 x3 t0 t1 t2 t3, ob1 e, .inr rfl, Nat.le_of_ble_eq_true rfl, Nat.le_of_ble_eq_true rfl⟩
  · exact ⟨_, _, _, _, _, pr_4_3_t w h d tk os x0 x1 x2 x3 t0 t1 t2 t3, ob1 e, .inr rfl, Nat.le_of_ble_eq_true rfl, Nat.le_of_ble_eq_true rfl⟩
theorem pa5 (x0 x1 x2 x3 x4 : Int) (t0 t1 t2 t3 t4 : Tok) : PreAny (pin1 w b) h d tk os [.int x0 t0, .int x1 t1, .int x2 t2, .int x3 t3, .int x4 t4] := by
  rcases par x0 with e | e <;> cases b
  · exact ⟨_, _, _, _, _, pr_5_2_f w h d tk os x0 x1 x2 x3 x4 t0 t1 t2 t3 t4, ob1 e, .inl rfl, Nat.le_of_ble_eq_true rfl, Nat.le_of_ble_eq_true rfl⟩
  · exact ⟨_, _, _, _, _, pr_5_2_t w h d tk os x0 x1 x2 x3 x4 t0 t1 t2 t3 t4, ob1 e, .inl rfl, Nat.le_of_ble_eq_true rfl, Nat.le_of_ble_eq_true rfl⟩
  · exact ⟨_, _, _, _, _, pr_5_3_f w h d tk os x0 x1 x2 x3 x4 t0 t1 t2 t3 t4, ob1 e, .inr rfl, Nat.le_of_ble_eq_true rfl, Nat.le_of_ble_eq_true rfl⟩
  · exact ⟨_, _, _, _, _, pr_5_3_t w h d tk os x0 x1 x2 x3 x4 t0 t1 t2 t3 t4, ob1 e, .inr rfl, Nat.le_of_ble_eq_true rfl, Nat.le_of_ble_eq_true rfl⟩
theorem pa6 (x0 x1 x2 x3 x4 x5 : Int) (t0 t1 t2 t3 t4 t5 : Tok) : PreAny (pin1 w b) h d tk os [.int x0 t0, .int x1 t1, .int x2 t2, .int x3 t3, .int x4 t4, .int x5 t5] := by
  rcases par x0 with e | e <;> cases b
  · exact ⟨_, _, _, _, _, pr_6_2_f w h d tk os x0 x1 x2 x3 x4 x5 t0 t1 t2 t3 t4 t5, ob1 e, .inl rfl, Nat.le_of_ble_eq_true rfl, Nat.le_of_ble_eq_true rfl⟩
  · exact ⟨_, _, _, _, _, pr_6_2_t w h d tk os x0 x1 x2 x3 x4 x5 t0 t1 t2 t3 t4 t5, ob1 e, .inl rfl, Nat.le_of_ble_eq_true rfl, Nat.le_of_ble_eq_true rfl⟩
  · exact ⟨_, _, _, _, _, pr_6_3_f w h d tk os x0 x1 x2 x3 x4 x5 t0 t1 t2 t3 t4 t5, ob1 e, .inr rfl, Nat.le_of_ble_eq_true rfl, Nat.le_of_ble_eq_true rfl⟩
  · exact ⟨_, _, _, _, _, pr_6_3_t w h d tk os x0 x1 x2 x3 x4 x5 t0 t1 t2 t3 t4 t5, ob1 e, .inr rfl, Nat.le_of_ble_eq_true rfl, Nat.le_of_ble_eq_true rfl⟩
theorem pa7 (x0 x1 x2 x3 x4 x5 x6 : Int) (t0 t1 t2 t3 t4 t5 t6 : Tok) : PreAny (pin1 w b) h d tk os [.int x0 t0, .int x1 t1, .int x2 t2, .int x3 t3, .int x4 t4, .int x5 t5, .int x6 t6] := by
  rcases par x0 with e | e <;> cases b
  · exact ⟨_, _, _, _, _, pr_7_2_f w h d tk os x0 x1 x2 x3 x4 x5 x6 t0 t1 t2 t3 t4 t5 t6, ob1 e, .inl rfl, Nat.le_of_ble_eq_true rfl, Nat.le_of_ble_eq_true rfl⟩
  · exact ⟨_, _, _, _, _, pr_7_2_t w h d tk os x0 x1 x2 x3 x4 x5 x6 t0 t1 t2 t3 t4 t5 t6, ob1 e, .inl rfl, Nat.le_of_ble_eq_true rfl, Nat.le_of_ble_eq_true rfl⟩
  · exact ⟨_, _, _, _, _, pr_7_3_f w h d tk os x0 x1 x2 x3 x4 x5 x6 t0 t1 t2 t3 t4 t5 t6, ob1 e, .inr rfl, Nat.le_of_ble_eq_true rfl, Nat.le_of_ble_eq_true rfl⟩
  · exact ⟨_, _, _, _, _, pr_7_3_t w h d tk os x0 x1 x2 x3 x4 x5 x6 t0 t1 t2 t3 t4 t5 t6, ob1 e, .inr rfl, Nat.le_of_ble_eq_true rfl, Nat.le_of_ble_eq_true rfl⟩
theorem pa8 (x0 x1 x2 x3 x4 x5 x6 x7 : Int) (t0 t1 t2 t3 t4 t5 t6 t7 : Tok) (r : List Value) (hl : r.length + 9 ≤ sizeLine) : PreAny (pin1 w b) h d tk os (.int x0 t0 :: .int x1 t1 :: .int x2 t2 :: .int x3 t3 :: .int x4 t4 :: .int x5 t5 :: .int x6 t6 :: .int x7 t7 :: r) := by
  rcases par x0 with e | e <;> cases b
  · exact ⟨_, _, _, _, _, pr_8_2_f w h d tk os x0 x1 x2 x3 x4 x5 x6 x7 t0 t1 t2 t3 t4 t5 t6 t7 r, ob3 e hl, .inl rfl, Nat.le_of_ble_eq_true rfl, Nat.le_of_ble_eq_true rfl⟩
  · exact ⟨_, _, _, _, _, pr_8_2_t w h d tk os x0 x1 x2 x3 x4 x5 x6 x7 t0 t1 t2 t3 t4 t5 t6 t7 r, ob3 e hl, .inl rfl, Nat.le_of_ble_eq_true rfl, Nat.le_of_ble_eq_true rfl⟩
  · exact ⟨_, _, _, _, _, pr_8_3_f w h d tk os x0 x1 x2 x3 x4 x5 x6 x7 t0 t1 t2 t3 t4 t5 t6 t7 r, ob3 e hl, .inr rfl, Nat.le_of_ble_eq_true rfl, Nat.le_of_ble_eq_true rfl⟩
  · exact ⟨_, _, _, _, _, pr_8_3_t w h d tk os x0 x1 x2 x3 x4 x5 x6 x7 t0 t1 t2 t3 t4 t5 t6 t7 r, ob3 e hl, .inr rfl, Nat.le_of_ble_eq_true rfl, Nat.le_of_ble_eq_true rfl⟩
theorem pre_any {vs : List Value} {ns : List Int} (I : IntsAre vs ns) (hl : vs.length ≤ 2 ^ 20) : PreAny (pin1 w b) h d tk os vs := by
  rcases ia I with rfl | ⟨x0, t0, _, _, rfl, I0⟩
  · exact pa0 b w h d tk os  
  rcases ia I0 with rfl | ⟨x1, t1, _, _, rfl, I1⟩
  · exact pa1 b w h d tk os x0 t0
  rcases ia I1 with rfl | ⟨x2, t2, _, _, rfl, I2⟩
  · exact pa2 b w h d tk os x0 x1 t0 t1
  rcases ia I2 with rfl | ⟨x3, t3, _, _, rfl, I3⟩
  · exact pa3 b w h d tk os x0 x1 x2 t0 t1 t2
  rcases ia I3 with rfl | ⟨x4, t4, _, _, rfl, I4⟩
  · exact pa4 b w h d tk os x0 x1 x2 x3 t0 t1 t2 t3
  rcases ia I4 with rfl | ⟨x5, t5, _, _, rfl, I5⟩
  · exact pa5 b w h d tk os x0 x1 x2 x3 x4 t0 t1 t2 t3 t4
  rcases ia I5 with rfl | ⟨x6, t6, _, _, rfl, I6⟩
  · exact pa6 b w h d tk os x0 x1 x2 x3 x4 x5 t0 t1 t2 t3 t4 t5
  rcases ia I6 with rfl | ⟨x7, t7, _, _, rfl, I7⟩
  · exact pa7 b w h d tk os x0 x1 x2 x3 x4 x5 x6 t0 t1 t2 t3 t4 t5 t6
  exact pa8 b w h d tk os x0 x1 x2 x3 x4 x5 x6 x7 t0 t1 t2 t3 t4 t5 t6 t7 _ (by simp only [List.length_cons] at hl; rw [sizeLine_eq]; omega)
end
end Mine
end
section -- MTl
set_option maxRecDepth 100000
set_option linter.constructorNameAsVariable false
namespace Mine
noncomputable abbrev sq (s : String) : Str := Str.ofString s
noncomputable abbrev nm (s : String) (p : Pos) : Expr := .Name (sq s) p
/-- names of the top, as law meets them -/
structure NmOk (P : Params) : Prop where
  text : nsIn (hk.heap_39 P) mainGlobals (sq "_law_text") = some (some (.ref 54))
  size : nsIn (hk.heap_39 P) mainGlobals (sq "_law_size") = some (some (.ref 49))
  part : nsIn (hk.heap_39 P) mainGlobals (sq "_law_parting") = some (some (.ref 59))
  cmp : nsIn (hk.heap_39 P) mainGlobals (sq "cmp_to_key") = some (some (.ref 28))
  sorted : nsIn (hk.heap_39 P) mainGlobals (sq "sorted") = some none
  len : nsIn (hk.heap_39 P) mainGlobals (sq "len") = some none
  range : nsIn (hk.heap_39 P) mainGlobals (sq "range") = some none
  max : nsIn (hk.heap_39 P) mainGlobals (sq "max") = some none
theorem nmOk (P : Params) : NmOk P := ⟨by kernel_rfl, by kernel_rfl, by kernel_rfl, by kernel_rfl, by kernel_rfl, by kernel_rfl, by kernel_rfl, by kernel_rfl⟩
structure FnAt2 (P : Params) (a : Addr) : Prop where
  obj : (KT2 P).get a = some (objAt P a)
  data : (objAt P a).data = .func (fdAt P a)
theorem fn2_54 (P : Params) : FnAt2 P 54 := ⟨by kernel_rfl, by kernel_rfl⟩
theorem fn2_49 (P : Params) : FnAt2 P 49 := ⟨by kernel_rfl, by kernel_rfl⟩
theorem fn2_59 (P : Params) : FnAt2 P 59 := ⟨by kernel_rfl, by kernel_rfl⟩
/-- law's environment -/
structure EnvOk (env : Env) : Prop where
  loc : env.locals = 66
  kind : env.scope.kind = .function
  glb : env.globals = mainGlobals
  blt : env.builtins = builtinsNs
  code : env.code = .ref 63
  points : env.kindOf (sq "points") = some .local
  steps : env.kindOf (sq "steps") = some .local
  k : env.kindOf (sq "k") = some .local
  n : env.kindOf (sq "n") = some .local
  row : env.kindOf (sq "row") = some .cell
  texts : env.kindOf (sq "texts") = some .cell
  axes : env.kindOf (sq "axes") = some .cell
  turned : env.kindOf (sq "turned") = some .cell
  sorted : env.kindOf (sq "sorted") = some .globalImplicit
  len : env.kindOf (sq "len") = some .globalImplicit
  range : env.kindOf (sq "range") = some .globalImplicit
  max : env.kindOf (sq "max") = some .globalImplicit
  cmp : env.kindOf (sq "cmp_to_key") = some .globalImplicit
  size : env.kindOf (sq "_law_size") = some .globalImplicit
  c69 : env.cells.lookup (sq "row") = some 69
  c70 : env.cells.lookup (sq "texts") = some 70
  c68 : env.cells.lookup (sq "axes") = some 68
  c71 : env.cells.lookup (sq "turned") = some 71
theorem envOk (P : Params) : EnvOk (envL P) := by
  refine ⟨?_, ?_, ?_, ?_, ?_, ?_, ?_, ?_, ?_, ?_, ?_, ?_, ?_, ?_, ?_, ?_, ?_, ?_, ?_, ?_, ?_, ?_, ?_⟩ <;> kernel_rfl
section
variable {w : World} {A : Around} {s : Shared} {E : Value → Shared → Prop} {Q : Value → Shared → Prop} {env : Env} {x : Str} {p : Pos} {v : Value}
theorem nm_glob (B : Bs w s.heap) (hk : env.scope.kind = .function) (hx : env.kindOf x = some .globalImplicit) (hg : env.globals = mainGlobals) (e : nsIn (Mine.hk.heap_39 w.params) mainGlobals x = some (some v)) (h : Q v s)
    (hd : (x == ("__debug__" : Str)) = false := by decide) : wpAny (model Prg w) A (eval (.Name x p) env) Q E s := by
  obtain ⟨_, x40, _, _, _, _, mg, mb, T⟩ := B
  exact Name_function_global hk hx (loadGlobal_global (show s.heap.Ns env.globals mg from hg ▸ T.g) (mg_of x40 T.g e) h) hd
theorem nm_built (B : Bs w s.heap) (hk : env.scope.kind = .function) (hx : env.kindOf x = some .globalImplicit) (hg : env.globals = mainGlobals) (hb : env.builtins = builtinsNs) (e : nsIn (Mine.hk.heap_39 w.params) mainGlobals x = some none) (hv : bootBuiltins x = some v) (hn : x ≠ "__name__") (h : Q v s)
    (hd : (x == ("__debug__" : Str)) = false := by decide) : wpAny (model Prg w) A (eval (.Name x p) env) Q E s := by
  obtain ⟨_, x40, _, _, _, _, mg, mb, T⟩ := B
  exact Name_function_global hk hx (loadGlobal_builtin (show s.heap.Ns env.globals mg from hg ▸ T.g) (mg_none_of x40 T.g e) (show s.heap.Ns env.builtins mb from hb ▸ T.b) ((T.builtins x hn).trans hv) h) hd
theorem nm_cell {c : Addr} {o : Obj} (hk : env.scope.kind = .function) (hx : env.kindOf x = some .cell) (hc : env.cells.lookup x = some c) (ho : s.heap.get? c = some o) (hd : o.data = .cell (some v)) (h : Q v s)
    (hb : (x == ("__debug__" : Str)) = false := by decide) : wpAny (model Prg w) A (eval (.Name x p) env) Q E s := wpAny_Name (wpAny_loadName_cell hk hx hc ⟨o, ho, hd⟩ h) hb
theorem nm_loc {m : Str → Option Value} (hk : env.scope.kind = .function) (hx : env.kindOf x = some .local) (hn : s.heap.Ns env.locals m) (hv : m x = some v) (h : Q v s)
    (hb : (x == ("__debug__" : Str)) = false := by decide) : wpAny (model Prg w) A (eval (.Name x p) env) Q E s := wpAny_Name (wpAny_loadName_local hk hx hn hv h) hb
end
theorem bb_len : bootBuiltins (sq "len") = some (.builtin "len") := by kernel_rfl
theorem bb_max : bootBuiltins (sq "max") = some (.builtin "max") := by kernel_rfl
theorem bb_sorted : bootBuiltins (sq "sorted") = some (.builtin "sorted") := by kernel_rfl
theorem bb_range : bootBuiltins (sq "range") = some (.type "range") := by kernel_rfl
/-- what the rest of law has of its ledger -/
structure Tl (w : World) (g : Heap) (n ax : Nat) (P : Nat → List Int) (tx : Nat → Str) (pm : List Nat) (R : Addr) (news : List (Addr × Obj)) : Prop where
  bs : Bs w g
  c68 : ∃ t, (68, celO (.int (ax : Int) t)) ∈ news
  c71 : (71, celO (.ref 76)) ∈ news
  c69 : ∃ o, (69, o) ∈ news ∧ o.data = .cell (some (.ref R))
  row : ∃ e, (R, lst (pm.map fun i => .ref (100 + 12 * i)) e) ∈ news
  dat : ∃ (po : Nat → Obj) (uo : Obj), (∀ j, j < n → (100 + 12 * j, po j) ∈ news) ∧ (76, uo) ∈ news ∧ (∀ j, j < n → IntsO (po j) (P j)) ∧ ∀ j, j < n → TextO w (100 + 12 * j) (po j) uo (tx j)
  len : pm.length = n
  lt : ∀ i ∈ pm, i < n
section
variable {w : World} {g h : Heap} {n ax : Nat} {P : Nat → List Int} {tx : Nat → Str} {pm : List Nat} {R : Addr} {news news' : List (Addr × Obj)}
theorem Tl.mono (T : Tl w g n ax P tx pm R news) (x : ∀ p ∈ news, p ∈ news') : Tl w g n ax P tx pm R news' := by
  obtain ⟨bs, ⟨t, c68⟩, c71, ⟨o, c69, d69⟩, ⟨e, row⟩, ⟨po, uo, a, b, c, d⟩, len, lt⟩ := T
  exact ⟨bs, ⟨t, x _ c68⟩, x _ c71, ⟨o, x _ c69, d69⟩, ⟨e, x _ row⟩, ⟨po, uo, fun j hj => x _ (a j hj), x _ b, c, d⟩, len, lt⟩
variable {m : Str → Option Value}
theorem Tl.bsh (T : Tl w g n ax P tx pm R news) (F : Fr g 66 h m) : Bs w h := T.bs.keeps F.keep
theorem Tl.isRow (T : Tl w g n ax P tx pm R news) (N : News g 66 h news) : h.IsList R (pm.map fun i => Value.ref (100 + 12 * i)).toArray := by
  obtain ⟨e, row⟩ := T.row
  exact ⟨_, (N _ row).1, rfl, e, rfl⟩
theorem Tl.pt (T : Tl w g n ax P tx pm R news) (N : News g 66 h news) (j : Nat) (hj : j < n) : ∃ vs : List Value, h.IsList (100 + 12 * j) vs.toArray ∧ IntsAre vs (P j) := by
  obtain ⟨po, uo, a, b, c, d⟩ := T.dat
  obtain ⟨vs, e, q, i⟩ := c j hj
  exact ⟨vs, ⟨_, (N _ (a j hj)).1, by rw [q], e, by rw [q]⟩, i⟩
theorem Tl.at (T : Tl w g n ax P tx pm R news) (k : Nat) (hk : k < n) : ∃ i, pm[k]? = some i ∧ pm.getD k 0 = i ∧ i < n ∧ (pm.map fun i => Value.ref (100 + 12 * i)).toArray[k]? = some (.ref (100 + 12 * i)) := by
  have hl : k < pm.length := by rw [T.len]; exact hk
  refine ⟨pm[k], by simp [hl], by simp [List.getD, hl], T.lt _ (List.getElem_mem hl), by simp [hl]⟩
end
noncomputable abbrev EF : Value → Shared → Prop := fun _ _ => False
section
variable {w : World} {A : Around} {s : Shared} {Q : Value → Shared → Prop} {env : Env} {g : Heap} {n ax : Nat} {P : Nat → List Int} {tx : Nat → Str} {pm : List Nat} {R : Addr} {news : List (Addr × Obj)} {m : Str → Option Value} {E : Value → Shared → Prop}
/-- len(row) -/
theorem ev_len {p1 p2 p3 : Pos} (O : EnvOk env) (T : Tl w g n ax P tx pm R news) (F : Fr g 66 s.heap m) (N : News g 66 s.heap news) (hn : n ≤ 12) (h : ∀ t tk, Q (.int (n : Int) t) { s with toks := tk }) :
    wpAny (model Prg w) A (eval (.Call (nm "len" p1) [nm "row" p2] [] p3) env) Q E s := by
  refine wpAny_Call_NameR (nm_built (T.bsh F) O.kind O.len O.glb O.blt (nmOk _).len bb_len (by decide) ?_)
  obtain ⟨o, m69, d69⟩ := T.c69
  refine callWith_builtin1 (spliced_cons (nm_cell O.kind O.row O.c69 (N _ m69).1 d69 (spliced_nil ?_)))
  have hl := T.isRow N
  have hs : (pm.map fun i => Value.ref (100 + 12 * i)).toArray.size = n := by simp [T.len]
  refine len_list hl (by rw [hs]; omega) ?_
  rw [hs]
  exact h _ _
/-- range(len(row) - 1) -/
theorem ev_range1 {p1 p2 p3 p4 p5 p6 p7 : Pos} {kc : Nat} (O : EnvOk env) (T : Tl w g n ax P tx pm R news) (F : Fr g 66 s.heap m) (N : News g 66 s.heap news) (hn : n ≤ 12)
    (h : ∀ r h' tk t u v, IsRange h' r 0 ((n : Int) - 1) 1 t u v → Fr g 66 h' m → News g 66 h' news → Q (.ref r) { s with heap := h', toks := tk }) :
    wpAny (model Prg w) A (eval (.Call (nm "range" p1) [.BinOp (.Call (nm "len" p2) [nm "row" p3] [] p4) .Sub (.Constant (.int 1) kc p5) p6] [] p7) env) Q E s := by
  refine wpAny_Call_NameR (nm_built (T.bsh F) O.kind O.range O.glb O.blt (nmOk _).range bb_range (by decide) ?_)
  refine callWith_type1 (spliced_cons (wpAny_BinOp (ev_len O T F N hn fun t tk => wpAny_Constant_int (sub_int (spliced_nil ?_)))))
  exact range1_rows F N fun h' tk t u v r F' N' _ => h _ _ _ _ _ _ r F' N'
theorem ev_range0 {p1 p2 p3 p4 p7 : Pos} (O : EnvOk env) (T : Tl w g n ax P tx pm R news) (F : Fr g 66 s.heap m) (N : News g 66 s.heap news) (hn : n ≤ 12)
    (h : ∀ r h' tk t u v, IsRange h' r 0 (n : Int) 1 t u v → Fr g 66 h' m → News g 66 h' news → Q (.ref r) { s with heap := h', toks := tk }) :
    wpAny (model Prg w) A (eval (.Call (nm "range" p1) [.Call (nm "len" p2) [nm "row" p3] [] p4] [] p7) env) Q E s := by
  refine wpAny_Call_NameR (nm_built (T.bsh F) O.kind O.range O.glb O.blt (nmOk _).range bb_range (by decide) ?_)
  refine callWith_type1 (spliced_cons (ev_len O T F N hn fun t tk => spliced_nil ?_))
  exact range1_rows F N fun h' tk t u v r F' N' _ => h _ _ _ _ _ _ r F' N'
end
end Mine
end
section -- MEe
set_option maxRecDepth 100000
set_option linter.constructorNameAsVariable false
namespace Mine
theorem old1 {h : Heap} {a : Addr} {o : Obj} (e : h.get? a = some o) : OldsIn h [(a, o)] := by
  intro q hq
  rcases List.mem_cons.mp hq with rfl | hq
  · exact e
  · cases hq
theorem old2 {h : Heap} {a b : Addr} {o o2 : Obj} (e : h.get? a = some o) (e2 : h.get? b = some o2) : OldsIn h [(a, o), (b, o2)] := by
  intro q hq
  rcases List.mem_cons.mp hq with rfl | hq
  · exact e
  · exact old1 e2 q hq
theorem kh_at {t : KT} {h : Heap} (K : KH t h) {a : Addr} {o : Obj} (e : t.get a = some o) : h.get? a = some o := kt_at K.k e
section
variable {kt : Params → KT} {w : World} {h : Heap} {n : Nat} {d : Drawn} {tk : Nat} {os : OsState} {g : Array GenState} {olds : List (Addr × Obj)} {fd : FuncData} {f f2 : Addr} {args : List Value} {id : Str} {p q : Pos} {a : Expr} {es : List Expr} {orc : List Nat} {vs : List Value} {o o2 : Obj} {fd2 : FuncData} {A : Around} {Q E : Value → Shared → Prop}
theorem rep_ext {T : BT} {m : Nat} {h' : Heap} (D : Rep (VO kt w h n d tk os) h' T m []) : Ext h h' := fun b o e => D.keep b o e rfl
theorem vo_ok (hn : h.objs.size = n) (hk : KH (kt w.params) h) : (VO kt w h n d tk os).Ok := ⟨hn, hk.k, fun _ _ q => (nomatch q)⟩
/-- a function's run whose one step is a call by name: its sealed facts -/
structure EeRan (kt : Params → KT) (w : World) (h : Heap) (n : Nat) (d : Drawn) (tk : Nat) (os : OsState) (olds : List (Addr × Obj)) (fd : FuncData) (f : Addr) (args : List Value) (es : List Expr) (orc : List Nat) (vs : List Value) : Prop where
  e : eeOut (entEvs (VO kt w h n d tk os) olds fd f ⟨args, []⟩ es orc) = some (vs, eeS (entEvs (VO kt w h n d tk os) olds fd f ⟨args, []⟩ es orc))
theorem ee_expr (Z : EeRan kt w h n d tk os olds fd f args (.Name id p :: a :: es) orc (.ref f2 :: vs)) (hn : h.objs.size = n) (hk : KH (kt w.params) h) (hl : h.NoLimit) (H : OldsIn h olds) (ho : h.get? f = some o) (hf : o.data = .func fd)
    (hco : fd.scope.isCoroutine = false) (hgen : fd.scope.isGenerator = false) (hb : fd.body = .expr (.Call (.Name id p) (a :: es) [] q)) (hcd : h.CodeRec fd.code fd.qualname) (hA : A.handled = none) (hd : A.depth + 101 ≤ recursionLimit)
    (hse : ∀ env, backTo q (starEach (a :: es) env) = (a :: es).map fun e => (false, eval e env)) (h2 : h.get? f2 = some o2) (hf2 : o2.data = .func fd2)
    (k : ∀ env h' tk', Ext h h' → wpAny (model Prg w) (A.deeper env) (call (.ref f2) vs) Q (fun _ _ => False) ⟨h', g, d, tk', os⟩) : wpAny (model Prg w) A (call (.ref f) args) Q E ⟨h, g, d, tk, os⟩ := by
  obtain ⟨env, st2, e, he⟩ := ee_ok Z.e
  obtain ⟨st1, e1, e2⟩ := entEvs_ok e
  have O : (VO kt w h n d tk os).Ok := vo_ok hn hk
  refine wpAny_call ?_
  refine ent_expr O H hl (st := os0 orc) (g := g) e1 ho hf hco hgen hb hcd hA hd (Rep.start O) (evs_eq e2 he) fun h1 D1 => ?_
  refine kla_codeExpr ?_
  refine evs_call O H hl e2 hA (by show A.depth + 1 + 100 ≤ _; omega) D1 he (hse env) (fun h' D' => rep_ext D' _ _ h2) hf2 fun h3 D3 => ?_
  exact wpAny_mono (k env h3 _ (rep_ext D3)) (fun _ _ x => x) (fun _ _ x => x.elim)
theorem ee_lt {kc : Nat} {pc r t : Pos} (Z : EeRan kt w h n d tk os olds fd f args (.Name id p :: a :: es) orc (.ref f2 :: vs)) (hn : h.objs.size = n) (hk : KH (kt w.params) h) (hl : h.NoLimit) (H : OldsIn h olds) (ho : h.get? f = some o) (hf : o.data = .func fd)
    (hco : fd.scope.isCoroutine = false) (hgen : fd.scope.isGenerator = false) (hb : fd.body = .stmts [.Return (some (.Compare (.Call (.Name id p) (a :: es) [] q) [.Lt] [.Constant (.int 0) kc pc] r)) t]) (hcd : h.CodeRec fd.code fd.qualname) (hA : A.handled = none) (hd : A.depth + 101 ≤ recursionLimit)
    (hse : ∀ env, backTo q (starEach (a :: es) env) = (a :: es).map fun e => (false, eval e env)) (h2 : h.get? f2 = some o2) (hf2 : o2.data = .func fd2)
    (k : ∀ env h' tk', Ext h h' → wpAny (model Prg w) (A.deeper env) (call (.ref f2) vs) (fun v s' => ∃ x t, v = .int x t ∧ ∀ tk2, Q (.bool (decide (x < 0))) { s' with toks := tk2 }) (fun _ _ => False) ⟨h', g, d, tk', os⟩) : wpAny (model Prg w) A (call (.ref f) args) Q E ⟨h, g, d, tk, os⟩ := by
  obtain ⟨env, st2, e, he⟩ := ee_ok Z.e
  obtain ⟨st1, e1, e2⟩ := entEvs_ok e
  have O : (VO kt w h n d tk os).Ok := vo_ok hn hk
  refine wpAny_call ?_
  refine ent_stmts O H hl (st := os0 orc) (g := g) e1 ho hf hco hgen hb hcd hA hd (Rep.start O) (evs_eq e2 he) fun h1 D1 => ?_
  refine wpAny_execs_cons (wpAny_Return_some (wpAny_Compare1 ?_))
  refine evs_call O H hl e2 hA (by show A.depth + 1 + 100 ≤ _; omega) D1 he (hse env) (fun h' D' => rep_ext D' _ _ h2) hf2 fun h3 D3 => ?_
  refine wpAny_mono (k env h3 _ (rep_ext D3)) (fun v s' x => ?_) (fun _ _ x => x.elim)
  obtain ⟨x, t, rfl, hq⟩ := x
  rw [eval_Constant]
  refine x_fresh (k := fun t => Sem.pure (Value.int 0 t)) (wpAny_pure ?_)
  exact PyProof.Rows.lt_int (hq _)
end
end Mine
end
section -- MTa
set_option maxRecDepth 100000
set_option linter.constructorNameAsVariable false
namespace Mine
/-- what a comprehension of law's asks of its scope -/
structure CoOk (env : Env) (sc : Scope) (cl : List (Str × Addr)) (x : Str) : Prop where
  clos : closureFor sc env = pure cl
  cell : (sc.names.all fun y => y.2 != .cell) = true
  kind : sc.kind = .function
  names : (sc.names.all fun y => y.2 != .local || sc.names.lookup y.1 == some .local) = true
  x : sc.names.lookup x = some .local
theorem CoOk.cell' {env : Env} {sc : Scope} {cl : List (Str × Addr)} {x : Str} (O : CoOk env sc cl x) : ∀ y ∈ sc.names, y.2 ≠ .cell := fun y hy => by
  have := List.all_eq_true.mp O.cell y hy
  simpa using this
theorem CoOk.names' {env : Env} {sc : Scope} {cl : List (Str × Addr)} {x : Str} (O : CoOk env sc cl x) : ∀ y ∈ sc.names, y.2 = .local → sc.names.lookup y.1 = some .local := fun y hy e => by
  have := List.all_eq_true.mp O.names y hy
  rw [e] at this
  simpa using this
/-- an index that is known -/
noncomputable def Ix (w : World) (env : Env) (h : Heap) (e : Expr) (i : Nat) : Prop := ∀ (s : Shared) (A : Around) (Q E : Value → Shared → Prop), s.heap = h → (∀ tk t, Q (.int (i : Int) t) { s with toks := tk }) → wpAny (model Prg w) A (eval e env) Q E s
section
variable {w : World} {A : Around} {s : Shared} {Q E : Value → Shared → Prop} {env : Env}
theorem Ix.succ {h : Heap} {e : Expr} {i : Nat} {kc : Nat} {p q : Pos} (X : Ix w env h e i) : Ix w env h (.BinOp e .Add (.Constant (.int 1) kc p) q) (i + 1) := by
  intro s A Q E hs hQ
  refine wpAny_BinOp (X s A _ _ hs fun tk t => ?_)
  refine wpAny_Constant_int (add_int ?_)
  have := hQ
  push_cast at this
  exact this _ _
theorem Ix.loc {h : Heap} {x : Str} {p : Pos} {i : Nat} {t : Tok} {m : Str → Option Value} (hk : env.scope.kind = .function) (hx : env.kindOf x = some .local) (hn : h.Ns env.locals m) (hv : m x = some (.int (i : Int) t)) (hb : (x == ("__debug__" : Str)) = false) : Ix w env h (.Name x p) i := by
  intro s A Q E hs hQ
  subst hs
  exact nm_loc hk hx hn hv (by have := hQ s.toks t; exact this) hb
/-- an item of a list -/
theorem ev_item {value slice : Expr} {pos : Pos} {l : Addr} {items : Array Value} {k : Nat} {x : Value} (h1 : ∀ (Q : Value → Shared → Prop) (s' : Shared), s'.heap = s.heap → Q (.ref l) s' → wpAny (model Prg w) A (eval value env) Q E s') (h2 : Ix w env s.heap slice k)
    (hl : s.heap.IsList l items) (hk : k < 64) (hx : items[k]? = some x) (h : ∀ tk, Q x { s with toks := tk })
    (hs : ∀ u, subscripted slice false (.ref l) (.int (k : Int) u) = operate [.ref l, .int (k : Int) u] (getItem (.ref l) (.int (k : Int) u)) := by intro _; with_unfolding_all rfl) (hg : ∀ r, letTemporaryGo value (.ref l) r = pure () := by intro _; with_unfolding_all rfl) :
    wpAny (model Prg w) A (eval (.Subscript value slice pos) env) Q E s := by
  refine Subscript_ (h1 _ s rfl (h2 s A _ _ rfl fun tk t => ?_))
  exact item_list (s := { s with toks := tk }) hl (by omega) (by omega) (by simpa using hx) (h tk) (hs t) hg
end
/-- an environment in which row, axes, _law_size are had -/
structure EvS (env : Env) : Prop where
  kind : env.scope.kind = .function
  glb : env.globals = mainGlobals
  size : env.kindOf (sq "_law_size") = some .globalImplicit
  row : env.kindOf (sq "row") = some .cell
  axes : env.kindOf (sq "axes") = some .cell
  c69 : env.cells.lookup (sq "row") = some 69
  c68 : env.cells.lookup (sq "axes") = some 68
section
variable {w : World} {A : Around} {s : Shared} {Q : Value → Shared → Prop} {env : Env} {g : Heap} {n ax : Nat} {P : Nat → List Int} {U : List Int} {tx : Nat → Str} {pm : List Nat} {R : Addr} {news : List (Addr × Obj)} {m : Str → Option Value} {E : Value → Shared → Prop}
theorem ev_size {e1 e2 : Expr} {i j : Nat} {p1 p2 p3 p4 p5 p6 p7 : Pos} (V : EvS env) (L : Pl n ax P U tx) (T : Tl w g n ax P tx pm R news) (F : Fr g 66 s.heap m) (N : News g 66 s.heap news) (X1 : Ix w env s.heap e1 i) (X2 : Ix w env s.heap e2 j)
    (hi : i < n) (hj : j < n) (hA : A.handled = none) (hd : A.depth ≤ 700) (hu : A.units ≤ 6000)
    (hQ : ∀ h' tk t, Ext s.heap h' → Q (.int (szF (P (pm.getD i 0)) (P (pm.getD j 0)) ax) t) { s with heap := h', toks := tk })
    (hse : ∀ env, backTo p7 (starEach [.Subscript (nm "row" p2) e1 p3, .Subscript (nm "row" p4) e2 p5, nm "axes" p6] env) = [.Subscript (nm "row" p2) e1 p3, .Subscript (nm "row" p4) e2 p5, nm "axes" p6].map fun e => (false, eval e env))
    (hs1 : ∀ l k u, subscripted e1 false (.ref l) (.int k u) = operate [.ref l, .int k u] (getItem (.ref l) (.int k u))) (hs2 : ∀ l k u, subscripted e2 false (.ref l) (.int k u) = operate [.ref l, .int k u] (getItem (.ref l) (.int k u))) :
    wpAny (model Prg w) A (eval (.Call (nm "_law_size" p1) [.Subscript (nm "row" p2) e1 p3, .Subscript (nm "row" p4) e2 p5, nm "axes" p6] [] p7) env) Q E s := by
  obtain ⟨o, m69, d69⟩ := T.c69
  obtain ⟨t68, m68⟩ := T.c68
  have hn := L.n12
  obtain ⟨i', _, ei, hi', gi⟩ := T.at i hi
  obtain ⟨j', _, ej, hj', gj⟩ := T.at j hj
  have FF := fn2_49 w.params
  have hrow : ∀ (p : Pos) (Q : Value → Shared → Prop) (s' : Shared), s'.heap = s.heap → Q (.ref R) s' → wpAny (model Prg w) A (eval (nm "row" p) env) Q E s' := fun p Q s' e hq =>
    nm_cell V.kind V.row V.c69 (by rw [e]; exact (N _ m69).1) d69 hq
  refine wpAny_Call_NameR (nm_glob (T.bsh F) V.kind V.size V.glb (nmOk _).size ?_)
  rw [hse]
  refine callWith_function (o := objAt w.params 49) (fd := fdAt w.params 49) (evalArgs_plain ?_)
  refine spliced_cons (ev_item (hrow p2) X1 (T.isRow N) (by omega) gi (fun tk1 => ?_) (fun u => hs1 _ _ u))
  refine spliced_cons (ev_item (s := { s with toks := tk1 }) (fun Q s' e hq => hrow p4 Q s' e hq) X2 (T.isRow N) (by omega) gj (fun tk2 => ?_) (fun u => hs2 _ _ u))
  refine spliced_cons (nm_cell V.kind V.axes V.c68 (N _ m68).1 rfl (spliced_nil ⟨⟨kh_at (T.bsh F).kn.kt FF.obj, FF.data⟩, ?_⟩))
  obtain ⟨v1, a1, i1⟩ := T.pt N i' hi'
  obtain ⟨v2, a2, i2⟩ := T.pt N j' hj'
  rw [ei, ej] at hQ
  exact size_at (s := { s with toks := tk2 }) (T.bsh F) a1 a2 i1 i2 (by rw [L.pl]; omega) (by rw [L.pl]; omega) (by have := L.a2; omega) (by have := L.a3; omega) hA hd hu fun h' tk t X => hQ h' tk t X
end
end Mine
end
section -- MTb
set_option maxRecDepth 100000
set_option linter.constructorNameAsVariable false
namespace Mine
/-- row's texts, once they stand -/
structure Txs (n : Nat) (pm : List Nat) (tx : Nat → Str) (D : Addr) (news : List (Addr × Obj)) : Prop where
  c70 : ∃ o, (70, o) ∈ news ∧ o.data = .cell (some (.ref D))
  row : ∃ ts e, (D, lst ts e) ∈ news ∧ ∀ k, k < n → ∃ t, ts[k]? = some (.str (tx (pm.getD k 0)) t)
theorem Txs.mono {n : Nat} {pm : List Nat} {tx : Nat → Str} {D : Addr} {news news' : List (Addr × Obj)} (T : Txs n pm tx D news) (x : ∀ p ∈ news, p ∈ news') : Txs n pm tx D news' := by
  obtain ⟨⟨o, a, d⟩, ts, e, b, c⟩ := T
  exact ⟨⟨o, x _ a, d⟩, ts, e, x _ b, c⟩
/-- an environment in which texts, axes, _law_parting are had -/
structure EvT (env : Env) : Prop where
  kind : env.scope.kind = .function
  glb : env.globals = mainGlobals
  part : env.kindOf (sq "_law_parting") = some .globalImplicit
  texts : env.kindOf (sq "texts") = some .cell
  axes : env.kindOf (sq "axes") = some .cell
  c70 : env.cells.lookup (sq "texts") = some 70
  c68 : env.cells.lookup (sq "axes") = some 68
section
variable {w : World} {A : Around} {s : Shared} {Q : Value → Shared → Prop} {env : Env} {g : Heap} {n ax : Nat} {P : Nat → List Int} {U : List Int} {tx : Nat → Str} {pm : List Nat} {R : Addr} {news : List (Addr × Obj)} {m : Str → Option Value} {E : Value → Shared → Prop}
theorem ev_part {D : Addr} {e1 e2 : Expr} {i j : Nat} {p1 p2 p3 p4 p5 p6 p7 : Pos} (V : EvT env) (L : Pl n ax P U tx) (T : Tl w g n ax P tx pm R news) (Z : Txs n pm tx D news) (F : Fr g 66 s.heap m) (N : News g 66 s.heap news) (X1 : Ix w env s.heap e1 i) (X2 : Ix w env s.heap e2 j)
    (hi : i < n) (hj : j < n) (hA : A.handled = none) (hd : A.depth ≤ 700) (hu : A.units ≤ 6000)
    (hQ : ∀ h' tk t, Ext s.heap h' → Q (.int (szF (P (pm.getD i 0)) (P (pm.getD j 0)) ax) t) { s with heap := h', toks := tk })
    (hse : ∀ env, backTo p7 (starEach [.Subscript (nm "texts" p2) e1 p3, .Subscript (nm "texts" p4) e2 p5, nm "axes" p6] env) = [.Subscript (nm "texts" p2) e1 p3, .Subscript (nm "texts" p4) e2 p5, nm "axes" p6].map fun e => (false, eval e env))
    (hs1 : ∀ l k u, subscripted e1 false (.ref l) (.int k u) = operate [.ref l, .int k u] (getItem (.ref l) (.int k u))) (hs2 : ∀ l k u, subscripted e2 false (.ref l) (.int k u) = operate [.ref l, .int k u] (getItem (.ref l) (.int k u))) :
    wpAny (model Prg w) A (eval (.Call (nm "_law_parting" p1) [.Subscript (nm "texts" p2) e1 p3, .Subscript (nm "texts" p4) e2 p5, nm "axes" p6] [] p7) env) Q E s := by
  obtain ⟨t68, m68⟩ := T.c68
  obtain ⟨⟨o70, m70, d70⟩, ts, ep, mD, hts⟩ := Z
  have hn := L.n12
  obtain ⟨t1, g1⟩ := hts i hi
  obtain ⟨t2, g2⟩ := hts j hj
  have FF := fn2_59 w.params
  have hD : s.heap.IsList D ts.toArray := ⟨_, (N _ mD).1, rfl, ep, rfl⟩
  have hrow : ∀ (p : Pos) (Q : Value → Shared → Prop) (s' : Shared), s'.heap = s.heap → Q (.ref D) s' → wpAny (model Prg w) A (eval (nm "texts" p) env) Q E s' := fun p Q s' e hq =>
    nm_cell V.kind V.texts V.c70 (by rw [e]; exact (N _ m70).1) d70 hq
  refine wpAny_Call_NameR (nm_glob (T.bsh F) V.kind V.part V.glb (nmOk _).part ?_)
  rw [hse]
  refine callWith_function (o := objAt w.params 59) (fd := fdAt w.params 59) (evalArgs_plain ?_)
  refine spliced_cons (ev_item (hrow p2) X1 hD (by omega) (by simpa using g1) (fun tk1 => ?_) (fun u => hs1 _ _ u))
  refine spliced_cons (ev_item (s := { s with toks := tk1 }) (fun Q s' e hq => hrow p4 Q s' e hq) X2 hD (by omega) (by simpa using g2) (fun tk2 => ?_) (fun u => hs2 _ _ u))
  refine spliced_cons (nm_cell V.kind V.axes V.c68 (N _ m68).1 rfl (spliced_nil ⟨⟨kh_at (T.bsh F).kn.kt FF.obj, FF.data⟩, ?_⟩))
  have h2 := L.a2
  have h3 := L.a3
  rw [L.sz] at hQ
  exact part_at (s := { s with toks := tk2 }) (T.bsh F) (n := 4 * ax) (L.tl _) (L.tl _) (by omega) (by omega) (by omega) hA hd hu fun h' tk t X => hQ h' tk t X
/-- the turns of a comprehension whose element keeps all and is told by a relation -/
theorem rest_of {elt : Expr} {x : Str} {scope : Scope} {cl : List (Str × Addr)} {S : List (Addr × Obj) → Prop} {Pv : Nat → Value → Prop} {Fin : List Value → List (Addr × Obj) → Prop} {N₀ : Nat} (V : Nat → Value → Prop) (hS : S news)
    (step : ∀ i v I oI C oC D ys m₂ h tk (E' : Value → Shared → Prop), i < N₀ → Pv i v → LCg.NsObj oC m₂ → m₂ x = some v → Fr g 66 h m → News g 66 h ((I, oI) :: (C, oC) :: (D, LCg.lst ys) :: news) →
      wpAny (model Prg w) A (eval elt (compEnvC scope cl C env)) (fun y s' => ∃ h' tk', s' = { s with heap := h', toks := tk' } ∧ Ext h h' ∧ V i y) E' { s with heap := h, toks := tk })
    (fin : ∀ ys, ys.length = N₀ → (∀ i, i < N₀ → ∃ y, ys[i]? = some y ∧ V i y) → Fin ys news) : LCg.CompRest Prg w A g 66 m env elt x scope cl s S Pv Fin N₀ 0 [] news := by
  have main : ∀ (k i : Nat) (ys : List Value), i + k = N₀ → ys.length = i → (∀ j, j < i → ∃ y, ys[j]? = some y ∧ V j y) → LCg.CompRest Prg w A g 66 m env elt x scope cl s S Pv Fin k i ys news := by
    intro k
    induction k with
    | zero =>
      intro i ys hi hl hv
      have : i = N₀ := by omega
      subst this
      exact LCg.CompRest.zero (fin ys hl hv)
    | succ k ih =>
      intro i ys hi hl hv
      refine LCg.CompRest.succ ?_
      intro v I oI C oC D m₂ h tk E' hp hN hm F N O3 hne
      refine wpAny_mono (step i v I oI C oC D ys m₂ h tk E' (by omega) hp hN hm F N) (fun y s' hy => ?_) fun _ _ e => e
      obtain ⟨h', tk', rfl, X, hV⟩ := hy
      refine LCg.CompEnd.intro (F.keeps X) (N.grown X) news (fun p hp => hp) O3 hS (ih (i + 1) (ys ++ [y]) (by omega) (by simp [hl]) fun j hj => ?_)
      by_cases e : j = i
      · subst e
        exact ⟨y, by rw [List.getElem?_append_right (by omega), hl, Nat.sub_self]; rfl, hV⟩
      · obtain ⟨y', e1, e2⟩ := hv j (by omega)
        exact ⟨y', by rw [List.getElem?_append_left (by omega)]; exact e1, e2⟩
  exact main N₀ 0 [] (by omega) rfl fun j hj => absurd hj (Nat.not_lt_zero _)
end
theorem ints_of : ∀ {ys : List Value} {ns : List Int}, ys.length = ns.length → (∀ i, i < ns.length → ∃ y, ys[i]? = some y ∧ ∃ t, y = .int (ns.getD i 0) t) → IntsAre ys ns
  | [], [], _, _ => .nil
  | [], _ :: _, h, _ => by simp at h
  | _ :: _, [], h, _ => by simp at h
  | y :: ys, n :: ns, h, hv => by
    obtain ⟨y', e, t, rfl⟩ := hv 0 (by simp)
    simp at e
    subst e
    exact .cons _ t (ints_of (by simpa using h) fun i hi => by
      obtain ⟨y', e, r⟩ := hv (i + 1) (by simp; omega)
      exact ⟨y', by simpa using e, by simpa using r⟩)
end Mine
end
section -- MTc
set_option maxRecDepth 100000
set_option linter.constructorNameAsVariable false
namespace Mine
theorem off1_mem {D : Addr} : ∀ {l : List (Addr × Obj)}, LCg.Off1 D l → ∀ p ∈ l, p.1 ≠ D
  | [], _, _, h => nomatch h
  | _ :: _, x, p, h => by
    rcases List.mem_cons.mp h with rfl | h
    · exact x.1
    · exact off1_mem x.2 p h
/-- the environment of texts' comprehension -/
structure EvX (env : Env) : Prop where
  kind : env.scope.kind = .function
  glb : env.globals = mainGlobals
  text : env.kindOf (sq "_law_text") = some .globalImplicit
  turned : env.kindOf (sq "turned") = some .cell
  point : env.kindOf (sq "point") = some .local
  c71 : env.cells.lookup (sq "turned") = some 71
noncomputable abbrev cl8 : List (Str × Addr) := [(sq "turned", 71)]
noncomputable abbrev cl9 : List (Str × Addr) := [(sq "row", 69), (sq "axes", 68)]
noncomputable abbrev cl10 : List (Str × Addr) := [(sq "texts", 70), (sq "axes", 68)]
/-- the comprehensions' shapes -/
noncomputable abbrev e8 (q : Nat → Pos) (sc : Scope) : Expr := .ListComp (.Call (nm "_law_text" (q 0)) [nm "point" (q 1), nm "turned" (q 2)] [] (q 3)) [⟨nm "point" (q 4), nm "row" (q 5), [], 0⟩] sc (q 6)
noncomputable abbrev rg1 (q : Nat → Pos) (kc : Nat) : Expr := .Call (nm "range" (q 0)) [.BinOp (.Call (nm "len" (q 1)) [nm "row" (q 2)] [] (q 3)) .Sub (.Constant (.int 1) kc (q 4)) (q 5)] [] (q 6)
noncomputable abbrev el9 (f r : String) (q : Nat → Pos) (kc : Nat) : Expr := .Call (nm f (q 0)) [.Subscript (nm r (q 1)) (nm "k" (q 2)) (q 3), .Subscript (nm r (q 4)) (.BinOp (nm "k" (q 5)) .Add (.Constant (.int 1) kc (q 6)) (q 7)) (q 8), nm "axes" (q 9)] [] (q 10)
noncomputable abbrev e9 (f r : String) (q : Nat → Pos) (kc kd : Nat) (sc : Scope) : Expr := .ListComp (el9 f r (fun i => q (i + 10)) kc) [⟨nm "k" (q 7), rg1 q kd, [], 0⟩] sc (q 8)
section
variable {w : World} {A : Around} {s : Shared} {Q : Flow → Shared → Prop} {env : Env} {g : Heap} {n ax : Nat} {P : Nat → List Int} {U : List Int} {tx : Nat → Str} {pm : List Nat} {R : Addr} {news : List (Addr × Obj)} {m : Str → Option Value} {E : Value → Shared → Prop}
/-- texts = [..] -/
theorem s8_ok {sc : Scope} {q : Nat → Pos} (O : EnvOk env) (K : CoOk env sc cl8 (sq "point")) (V : ∀ C, EvX (compEnvC sc cl8 C env))
    (hsw : swapsWith (e8 q sc) (some (nm "texts" (q 7))) (q 8).line env = pure false)
    (L : Pl n ax P U tx) (T : Tl w g n ax P tx pm R news) (F : Fr g 66 s.heap m) (N : News g 66 s.heap news) (h70 : ∃ o v, (70, o) ∈ news ∧ o.data = .cell v) (hA : A.handled = none) (hd : A.depth ≤ 600)
    (hQ : ∀ h' tk D news', Fr g 66 h' m → News g 66 h' news' → Tl w g n ax P tx pm R news' → Txs n pm tx D news' → (∀ p ∈ news, p.1 ≠ 70 → p ∈ news') → Q .next { s with heap := h', toks := tk }) :
    wpAny (model Prg w) A (exec (.Assign [nm "texts" (q 7)] (e8 q sc) (q 8)) env) Q E s := by
  obtain ⟨o69, m69, d69⟩ := T.c69
  obtain ⟨er, mR⟩ := T.row
  obtain ⟨o70, v70, m70, d70⟩ := h70
  have hn := L.n12
  have hr : (1000 : Nat) = recursionLimit := rfl
  have hsz : (pm.map fun i => Value.ref (100 + 12 * i)).toArray.size = n := by simp [T.len]
  refine wpAny_Assign_Name (LCg.ListComp_U F K.clos K.cell' K.kind K.names' K.x (nm_cell O.kind O.row O.c69 (N _ m69).1 d69 ?_)) hsw
  refine LCg.CompSrc.ledger hA F N mR (by rw [hsz, sizeLine_eq]; omega) fun g' => ?_
  rw [hsz]
  refine rest_of (fun i y => ∃ t, y = .str (tx (pm.getD i 0)) t) (.inr ⟨_, mR, rfl, _, rfl⟩) ?_ ?_
  · intro i v I oI C oC D ys m₂ h tk E' hi hp hN hm F' N'
    obtain ⟨i', _, ei, hi', gi⟩ := T.at i hi
    have hv : v = .ref (100 + 12 * i') := by
      have := hp.symm.trans gi
      exact Option.some.inj this
    subst hv
    obtain ⟨po, uo, a, b, c, d⟩ := T.dat
    have W := V C
    have sub : ∀ p ∈ news, p ∈ (I, oI) :: (C, oC) :: (D, LCg.lst ys) :: news := fun p hp => .tail _ (.tail _ (.tail _ hp))
    have B := T.bsh F'
    have FF := fn2_54 w.params
    refine wpAny_Call_NameR (nm_glob B W.kind W.text W.glb (nmOk _).text ?_)
    refine callWith_function (o := objAt w.params 54) (fd := fdAt w.params 54) (evalArgs_plain ?_)
    refine spliced_cons (LCgL.ld_own N' (.tail _ (.head _)) hN hm ?_ W.kind W.point (by decide))
    refine spliced_cons (nm_cell W.kind W.turned W.c71 (N' _ (sub _ T.c71)).1 rfl (spliced_nil ⟨⟨kh_at B.kn.kt FF.obj, FF.data⟩, ?_⟩))
    rw [ei]
    exact d i' hi' { s with heap := h, toks := tk } A _ _ B.kn (N' _ (sub _ (a i' hi'))).1 (N' _ (sub _ b)).1 hA (by omega) fun h' tk' t X => ⟨h', tk', rfl, X, t, rfl⟩
  · intro ys hl hv D h tk F' N' O1
    have h70 : (70 : Nat) ≠ D := off1_mem O1 _ m70
    refine wpAny_storeName_cell O.kind O.texts O.c70 ⟨o70, (N' _ (.tail _ m70)).1, d70⟩ fun h' hc hs => ?_
    obtain ⟨o', g70, d'⟩ := hc
    have n70 := (N' _ (.tail _ m70)).2
    have R70 : R ≠ 70 := fun e => by
      have e1 := (N' _ (.tail _ mR)).1
      have e2 := (N' _ (.tail _ m70)).1
      rw [e] at e1
      rw [e1] at e2
      cases e2
      cases d70
    have keep : ∀ p ∈ news, p.1 ≠ 70 → p ∈ (70, o') :: (D, LCg.lst ys) :: news.filter (fun p => !(Nat.beq p.1 70)) := fun p hp hne => by
      refine .tail _ (.tail _ (List.mem_filter.mpr ⟨hp, ?_⟩))
      have : Nat.beq p.1 70 = false := by cases q : Nat.beq p.1 70 with
        | false => rfl
        | true => exact absurd (Nat.eq_of_beq_eq_true q) hne
      rw [this]; rfl
    refine hQ h' tk D ((70, o') :: (D, LCg.lst ys) :: news.filter (fun p => !(Nat.beq p.1 70))) (F'.change hs n70.1 n70.2) (fun p hp => ?_) ?_ ⟨⟨o', .head _, d'⟩, ys, _, .tail _ (.head _), fun k hk => ?_⟩ keep
    · rcases List.mem_cons.mp hp with rfl | hp
      · exact ⟨g70, n70⟩
      · have hne : p.1 ≠ 70 ∧ p ∈ (D, LCg.lst ys) :: news := by
          rcases List.mem_cons.mp hp with rfl | hp
          · exact ⟨h70.symm, .head _⟩
          · obtain ⟨hp, hb⟩ := List.mem_filter.mp hp
            refine ⟨fun e => ?_, .tail _ hp⟩
            rw [e] at hb
            exact absurd hb (by decide)
        exact ⟨(hs.2 _ hne.1).trans (N' _ hne.2).1, (N' _ hne.2).2⟩
    · obtain ⟨bs, ⟨t, c68⟩, c71, ⟨o, c69, d69⟩, ⟨e, row⟩, ⟨po, uo, a, b, c, d⟩, len, lt⟩ := T
      exact ⟨bs, ⟨t, keep _ c68 (by show (68 : Nat) ≠ 70; decide)⟩, keep _ c71 (by decide), ⟨o, keep _ c69 (by show (69 : Nat) ≠ 70; decide), d69⟩, ⟨e, keep _ row R70⟩, ⟨po, uo, fun j hj => keep _ (a j hj) (by show 100 + 12 * j ≠ 70; omega), keep _ b (by show (76 : Nat) ≠ 70; decide), c, d⟩, len, lt⟩
    · obtain ⟨y, e, t, rfl⟩ := hv k hk
      exact ⟨t, e⟩
/-- the steps, as ints -/
noncomputable def stI (n ax : Nat) (P : Nat → List Int) (pm : List Nat) : List Int := (List.range (n - 1)).map fun k => szF (P (pm.getD k 0)) (P (pm.getD (k + 1) 0)) ax
theorem stI_len : (stI n ax P pm).length = n - 1 := by simp [stI]
theorem stI_at (k : Nat) (hk : k < n - 1) : (stI n ax P pm)[k]? = some (szF (P (pm.getD k 0)) (P (pm.getD (k + 1) 0)) ax) := by
  simp [stI, hk]
theorem stI_getD (k : Nat) (hk : k < n - 1) : (stI n ax P pm).getD k 0 = szF (P (pm.getD k 0)) (P (pm.getD (k + 1) 0)) ax := by
  rw [List.getD_eq_getElem?_getD, stI_at k hk]; rfl
theorem iterK_range (hn5 : 1 ≤ n) (hn : n ≤ 12) : Builtin.Range.small 0 ((n : Int) - 1) 1 = true ∧ Builtin.Range.rangeSize 0 ((n : Int) - 1) 1 = ((n - 1 : Nat) : Int) := by
  refine ⟨small_one (by omega) (by omega) (by omega) (by omega), ?_⟩
  unfold Builtin.Range.rangeSize; (repeat' split) <;> omega
theorem lt_of_cle {a b : Nat} (h : a + 64 ≤ b) : a < b := by omega
theorem e9_rest {sc : Scope} {q : Nat → Pos} {kc : Nat} {s' : Shared} {S : List (Addr × Obj) → Prop} {Fin : List Value → List (Addr × Obj) → Prop} (V : ∀ C, EvS (compEnvC sc cl9 C env)) (Vk : ∀ C, (compEnvC sc cl9 C env).kindOf (sq "k") = some .local)
    (L : Pl n ax P U tx) (T : Tl w g n ax P tx pm R news) (hA : A.handled = none) (hd : A.depth ≤ 600) (hu : A.units ≤ 5000) (hS : S news)
    (hfin : ∀ ys, IntsAre ys (stI n ax P pm) → Fin ys news) :
    LCg.CompRest Prg w A g 66 m env (el9 "_law_size" "row" q kc) (sq "k") sc cl9 s' S (fun i v => ∃ t, v = .int (0 + (i : Int)) t) Fin (n - 1) 0 [] news := by
  have hn := L.n12
  have h5 := L.n5
  refine rest_of (fun i y => ∃ t, y = .int ((stI n ax P pm).getD i 0) t) hS ?_ ?_
  · rintro i v I oI C oC D ys m₂ h tk E' hi ⟨t, rfl⟩ hN hm F' N'
    rw [Int.zero_add] at hm
    have sub : ∀ p ∈ news, p ∈ (I, oI) :: (C, oC) :: (D, LCg.lst ys) :: news := fun p hp => .tail _ (.tail _ (.tail _ hp))
    have ck := hN.ns (N' _ (.tail _ (.head _))).1
    have X : ∀ p, Ix w (compEnvC sc cl9 C env) h (nm "k" p) i := fun p => Ix.loc (V C).kind (Vk C) ck hm (by decide)
    rw [stI_getD i hi]
    exact ev_size (s := { s' with heap := h, toks := tk }) (V C) L (T.mono sub) F' N' (X _) (X _).succ (by omega) (by omega) hA (by omega) (by omega) (fun h' tk t X => ⟨h', tk, rfl, X, t, rfl⟩) (fun _ => rfl) (fun _ _ _ => by with_unfolding_all rfl) (fun _ _ _ => by with_unfolding_all rfl)
  · intro ys hl hv
    exact hfin ys (ints_of (by rw [hl, stI_len]) (fun i hi => by rw [stI_len] at hi; exact hv i hi))
theorem e10_rest {D₀ : Addr} {sc : Scope} {q : Nat → Pos} {kc : Nat} {s' : Shared} {S : List (Addr × Obj) → Prop} {Fin : List Value → List (Addr × Obj) → Prop} (V : ∀ C, EvT (compEnvC sc cl10 C env)) (Vk : ∀ C, (compEnvC sc cl10 C env).kindOf (sq "k") = some .local)
    (L : Pl n ax P U tx) (T : Tl w g n ax P tx pm R news) (Z : Txs n pm tx D₀ news) (hA : A.handled = none) (hd : A.depth ≤ 600) (hu : A.units ≤ 5000) (hS : S news)
    (hfin : ∀ ys, IntsAre ys (stI n ax P pm) → Fin ys news) :
    LCg.CompRest Prg w A g 66 m env (el9 "_law_parting" "texts" q kc) (sq "k") sc cl10 s' S (fun i v => ∃ t, v = .int (0 + (i : Int)) t) Fin (n - 1) 0 [] news := by
  have hn := L.n12
  have h5 := L.n5
  refine rest_of (fun i y => ∃ t, y = .int ((stI n ax P pm).getD i 0) t) hS ?_ ?_
  · rintro i v I oI C oC D ys m₂ h tk E' hi ⟨t, rfl⟩ hN hm F' N'
    rw [Int.zero_add] at hm
    have sub : ∀ p ∈ news, p ∈ (I, oI) :: (C, oC) :: (D, LCg.lst ys) :: news := fun p hp => .tail _ (.tail _ (.tail _ hp))
    have ck := hN.ns (N' _ (.tail _ (.head _))).1
    have X : ∀ p, Ix w (compEnvC sc cl10 C env) h (nm "k" p) i := fun p => Ix.loc (V C).kind (Vk C) ck hm (by decide)
    rw [stI_getD i hi]
    exact ev_part (s := { s' with heap := h, toks := tk }) (V C) L (T.mono sub) (Z.mono sub) F' N' (X _) (X _).succ (by omega) (by omega) hA (by omega) (by omega) (fun h' tk t X => ⟨h', tk, rfl, X, t, rfl⟩) (fun _ => rfl) (fun _ _ _ => by with_unfolding_all rfl) (fun _ _ _ => by with_unfolding_all rfl)
  · intro ys hl hv
    exact hfin ys (ints_of (by rw [hl, stI_len]) (fun i hi => by rw [stI_len] at hi; exact hv i hi))
/-- steps = [..] -/
theorem s9_ok {sc : Scope} {q : Nat → Pos} {kc kd : Nat} (O : EnvOk env) (K : CoOk env sc cl9 (sq "k")) (V : ∀ C, EvS (compEnvC sc cl9 C env)) (Vk : ∀ C, (compEnvC sc cl9 C env).kindOf (sq "k") = some .local)
    (hsw : swapsWith (e9 "_law_size" "row" q kc kd sc) (some (nm "steps" (q 9))) (q 30).line env = pure true)
    (hp : (env.scope.kind == .class || (env.scope.kind == .module && env.locals != env.globals)) = false)
    (L : Pl n ax P U tx) (T : Tl w g n ax P tx pm R news) (F : Fr g 66 s.heap m) (N : News g 66 s.heap news) (hA : A.handled = none) (hd : A.depth ≤ 600) (hu : A.units ≤ 5000)
    (hQ : ∀ h' tk D ys, Fr g 66 h' (fun z => if z = sq "steps" then some (.ref D) else m z) → News g 66 h' ((D, LCg.lst ys) :: news) → IntsAre ys (stI n ax P pm) → Q .next { s with heap := h', toks := tk }) :
    wpAny (model Prg w) A (exec (.Assign [nm "steps" (q 9)] (e9 "_law_size" "row" q kc kd sc) (q 30)) env) Q E s := by
  have hn := L.n12
  have h5 := L.n5
  have z := iterK_range (n := n) (by omega) hn
  refine LCg.Assign_ListComp_U F O.loc hsw K.clos K.cell' K.kind K.names' K.x O.steps hp (ev_range1 O T F N hn fun r h' tk t u v hr F' N' => ?_)
  refine LCg.CompSrc.range (n := n - 1) hA F' N' hr z.1 z.2 (by rw [sizeLine_eq]; omega) fun g' => ?_
  refine e9_rest V Vk L T hA hd hu trivial fun ys hi D h2 tk2 F2 N2 O1 => ?_
  exact hQ h2 tk2 D ys F2 N2 hi
/-- if steps != [..] -/
theorem s10_ok {D₀ S : Addr} {ys : List Value} {sc : Scope} {q : Nat → Pos} {kc kd : Nat} {bd : List Stmt} (O : EnvOk env) (K : CoOk env sc cl10 (sq "k")) (V : ∀ C, EvT (compEnvC sc cl10 C env)) (Vk : ∀ C, (compEnvC sc cl10 C env).kindOf (sq "k") = some .local)
    (hbm : behindInMarks .NotEq (e9 "_law_parting" "texts" q kc kd sc) = false)
    (L : Pl n ax P U tx) (T : Tl w g n ax P tx pm R news) (Z : Txs n pm tx D₀ news) (F : Fr g 66 s.heap m) (N : News g 66 s.heap news) (hm : m (sq "steps") = some (.ref S)) (hS : (S, LCg.lst ys) ∈ news) (hi : IntsAre ys (stI n ax P pm))
    (hA : A.handled = none) (hd : A.depth ≤ 600) (hu : A.units ≤ 5000)
    (hQ : ∀ h' tk, Fr g 66 h' m → News g 66 h' news → Q .next { s with heap := h', toks := tk }) :
    wpAny (model Prg w) A (exec (.If (.Compare (nm "steps" (q 9)) [.NotEq] [e9 "_law_parting" "texts" q kc kd sc] (q 30)) bd [] (q 31)) env) Q E s := by
  have hn := L.n12
  have h5 := L.n5
  have z := iterK_range (n := n) (by omega) hn
  have hcl : (9000 : Nat) ≤ cLine := by decide
  refine wpAny_If (wpAny_isTrue_Compare1 (nm_loc O.kind O.steps (O.loc ▸ F.ns) hm ?_) hbm)
  refine LCg.ListComp_U F K.clos K.cell' K.kind K.names' K.x (ev_range1 O T F N hn fun r h' tk t u v hr F' N' => ?_)
  refine LCg.CompSrc.range (n := n - 1) hA F' N' hr z.1 z.2 (by rw [sizeLine_eq]; omega) fun g' => ?_
  refine e10_rest V Vk L T Z hA hd hu trivial fun ys2 hi2 D h2 tk2 F2 N2 O1 => ?_
  refine ne_intsK (a := S) (b := D) (vs := ys) (us := ys2) ⟨_, (N2 _ (.tail _ hS)).1, rfl, _, rfl⟩ hi ⟨_, (N2 _ (.head _)).1, rfl, _, rfl⟩ hi2 (by omega) ?_
  simp only [decide_true, Bool.not_true]
  refine wpAny_truthy_bool ?_
  simp only [Bool.false_eq_true, if_false]
  exact wpAny_execs_nil (hQ h2 tk2 F2 (fun p hp => N2 p (.tail _ hp)))
end
end Mine
end
section -- MTd
set_option maxRecDepth 100000
set_option linter.constructorNameAsVariable false
namespace Mine
theorem foldl_max_ge : ∀ (l : List Int) (a : Int), a ≤ l.foldl max a ∧ ∀ b ∈ l, b ≤ l.foldl max a
  | [], a => ⟨Int.le_refl a, fun _ h => nomatch h⟩
  | c :: l, a => by
    obtain ⟨h1, h2⟩ := foldl_max_ge l (max a c)
    refine ⟨by simp only [List.foldl_cons]; omega, fun b hb => ?_⟩
    simp only [List.foldl_cons]
    rcases List.mem_cons.mp hb with rfl | hb
    · omega
    · exact h2 b hb
theorem foldl_max_mem : ∀ (l : List Int) (a : Int), l.foldl max a ∈ a :: l
  | [], a => .head _
  | c :: l, a => by
    simp only [List.foldl_cons]
    have := foldl_max_mem l (max a c)
    rcases List.mem_cons.mp this with e | e
    · rw [e]
      rcases Int.le_total a c with h | h
      · rw [Int.max_eq_right h]; exact .tail _ (.head _)
      · rw [Int.max_eq_left h]; exact .head _
    · exact .tail _ (.tail _ e)
theorem max_is {l : List Int} {a M : Int} (h1 : M ∈ a :: l) (h2 : ∀ b ∈ a :: l, b ≤ M) : M = l.foldl max a := by
  obtain ⟨g1, g2⟩ := foldl_max_ge l a
  have := h2 _ (foldl_max_mem l a)
  rcases List.mem_cons.mp h1 with rfl | h
  · omega
  · have := g2 _ h; omega
/-- a far pair's size is the greatest of the steps between -/
noncomputable def FarOk (n ax : Nat) (P : Nat → List Int) (pm : List Nat) : Prop := ∀ i k M, i < k → k < n → M ∈ ((stI n ax P pm).drop i).take (k - i) → (∀ a ∈ ((stI n ax P pm).drop i).take (k - i), a ≤ M) → szF (P (pm.getD i 0)) (P (pm.getD k 0)) ax = M
theorem far_ok {n ax : Nat} {P : Nat → List Int} {U : List Int} {tx : Nat → Str} {pm : List Nat} (L : Pl n ax P U tx)
    (hs : ∀ i j, i ≤ j → j < n → ¬ (tx (pm.getD j 0)).cps.toList < (tx (pm.getD i 0)).cps.toList) : FarOk n ax P pm := by
  intro i k M hik hk hM hle
  have h2 := L.a2
  have far := far_is (fun i k => szF (P (pm.getD i 0)) (P (pm.getD k 0)) ax) n (fun i j k hij hjk hk => by
    rw [L.sz, L.sz, L.sz]
    exact part_max _ _ _ ax (by omega) (L.tl _) (L.tl _) (L.tl _) (hs i j hij (by omega)) (hs j k hjk hk)) (stI n ax P pm) (fun k hk => stI_at k (by omega)) (k - i - 1) i (by omega)
  rw [show k - i - 1 + 1 = k - i by omega] at far
  obtain ⟨ne, far⟩ := far
  cases q : ((stI n ax P pm).drop i).take (k - i) with
  | nil => exact absurd q ne
  | cons a l =>
    rw [q] at hM hle
    have := far a l q
    rw [show i + (k - i - 1) + 1 = k by omega] at this
    rw [← this]
    exact (max_is hM hle).symm
/-- the loops' shapes -/
noncomputable abbrev cm11 (q : Nat → Pos) : Expr := .Call (nm "max" (q 0)) [.Subscript (nm "steps" (q 1)) (.Slice (some (nm "n" (q 2))) (some (nm "k" (q 3))) none (q 4)) (q 5)] [] (q 6)
noncomputable abbrev sz11 (q : Nat → Pos) : Expr := .Call (nm "_law_size" (q 7)) [.Subscript (nm "row" (q 8)) (nm "n" (q 9)) (q 10), .Subscript (nm "row" (q 11)) (nm "k" (q 12)) (q 13), nm "axes" (q 14)] [] (q 15)
noncomputable abbrev if11 (q : Nat → Pos) (bd : List Stmt) : Stmt := .If (.Compare (sz11 q) [.NotEq] [cm11 q] (q 16)) bd [] (q 17)
noncomputable abbrev rk11 (q : Nat → Pos) (kc : Nat) : Expr := .Call (nm "range" (q 18)) [.BinOp (nm "k" (q 19)) .Sub (.Constant (.int 1) kc (q 20)) (q 21)] [] (q 22)
noncomputable abbrev fr11 (q : Nat → Pos) (kc : Nat) (bd : List Stmt) : Stmt := .For (nm "n" (q 23)) (rk11 q kc) [if11 q bd] [] (q 24)
noncomputable abbrev s11 (q : Nat → Pos) (kc : Nat) (bd : List Stmt) : Stmt := .For (nm "k" (q 25)) (.Call (nm "range" (q 26)) [.Call (nm "len" (q 27)) [nm "row" (q 28)] [] (q 29)] [] (q 30)) [fr11 q kc bd] [] (q 31)
section
variable {w : World} {A : Around} {s : Shared} {env : Env} {g : Heap} {n ax : Nat} {P : Nat → List Int} {U : List Int} {tx : Nat → Str} {pm : List Nat} {R : Addr} {news : List (Addr × Obj)} {m : Str → Option Value} {E : Value → Shared → Prop} {q : Nat → Pos} {bd : List Stmt}
theorem EnvOk.evS (O : EnvOk env) : EvS env := ⟨O.kind, O.glb, O.size, O.row, O.axes, O.c69, O.c68⟩
theorem if11_ok {Q : Flow → Shared → Prop} {S : Addr} {ys : List Value} {i k : Nat} {t u : Tok} (O : EnvOk env) (L : Pl n ax P U tx) (T : Tl w g n ax P tx pm R news) (far : FarOk n ax P pm) (F : Fr g 66 s.heap m) (N : News g 66 s.heap news)
    (hm : m (sq "steps") = some (.ref S)) (hk : m (sq "k") = some (.int (k : Int) t)) (hn : m (sq "n") = some (.int (i : Int) u)) (hS : (S, LCg.lst ys) ∈ news) (hi : IntsAre ys (stI n ax P pm)) (hik : i < k) (hkn : k < n)
    (hA : A.handled = none) (hd : A.depth ≤ 600) (hu : A.units ≤ 5000) (hbm : behindInMarks .NotEq (cm11 q) = false)
    (hQ : ∀ h' tk, Fr g 66 h' m → News g 66 h' news → Q .next { s with heap := h', toks := tk }) : wpAny (model Prg w) A (exec (if11 q bd) env) Q E s := by
  have h12 := L.n12
  have sl := stI_len (n := n) (ax := ax) (P := P) (pm := pm)
  have Xn : ∀ p, Ix w env s.heap (nm "n" p) i := fun p => Ix.loc O.kind O.n (O.loc ▸ F.ns) hn (by decide)
  have Xk : ∀ p, Ix w env s.heap (nm "k" p) k := fun p => Ix.loc O.kind O.k (O.loc ▸ F.ns) hk (by decide)
  refine wpAny_If (wpAny_isTrue_Compare1 ?_ hbm)
  refine ev_size O.evS L T F N (Xn _) (Xk _) (by omega) hkn hA (by omega) (by omega) (fun h' tk t X => ?_) (fun _ => rfl) (fun _ _ _ => by with_unfolding_all rfl) (fun _ _ _ => by with_unfolding_all rfl)
  have F1 := F.keeps X
  have N1 := N.grown X
  refine wpAny_Call_NameR (nm_built (T.bsh F1) O.kind O.max O.glb O.blt (nmOk _).max bb_max (by decide) ?_)
  refine callWith_builtin1 (spliced_cons (Subscript_ (nm_loc O.kind O.steps (O.loc ▸ F1.ns) hm ?_)))
  refine wpAny_Slice ?_
  refine nm_loc O.kind O.n (O.loc ▸ F1.ns) hn ?_
  refine nm_loc O.kind O.k (O.loc ▸ F1.ns) hk ?_
  refine wpAny_pure ?_
  have hl : h'.IsList S ys.toArray := ⟨_, (N1 _ hS).1, rfl, _, rfl⟩
  refine slice_list (lo := some (i : Int)) (hi := some (k : Int)) F1 N1 hl (.int _ _) (.int _ _) (fun h2 F2 N2 => spliced_nil ?_) (by with_unfolding_all rfl) (by intro _; with_unfolding_all rfl) (by rw [List.size_toArray, hi.length, sl, sizeLine_eq]; omega)
  have hI := slice_ints (x := (i : Int)) (y := (k : Int)) hi (by omega) (by omega) (by rw [sl]; omega)
  rw [show ((k : Int) - (i : Int)).toNat = k - i by omega, show (i : Int).toNat = i by omega] at hI
  have hlen : 0 < (((stI n ax P pm).drop i).take (k - i)).length := by rw [List.length_take, List.length_drop, sl]; omega
  refine max_list_N (vs := (slicePick ys.toArray (some (i : Int)) (some (k : Int)) none).toList) hA F2 N2 ⟨_, (N2 _ (.head _)).1, rfl, _, by rw [Array.toArray_toList]⟩ hI hlen fun h3 M t3 tk3 F3 N3 hM hle => ?_
  rw [far i k M hik hkn hM hle]
  refine ne_int ?_
  simp only [bne_self_eq_false]
  refine wpAny_truthy_bool ?_
  simp only [Bool.false_eq_true, if_false]
  exact wpAny_execs_nil (hQ h3 tk3 F3 (fun p hp => N3 p (.tail _ hp)))
end
end Mine
end
section -- MTe
set_option maxRecDepth 100000
set_option linter.constructorNameAsVariable false
namespace Mine
section
variable {w : World} {A : Around} {s : Shared} {env : Env} {g : Heap} {n ax : Nat} {P : Nat → List Int} {U : List Int} {tx : Nat → Str} {pm : List Nat} {R : Addr} {news : List (Addr × Obj)} {m : Str → Option Value} {q : Nat → Pos} {bd : List Stmt} {kc : Nat}
/-- a loop over a range from nought -/
theorem rg_loop {Q : Flow → Shared → Prop} {x : Str} {body : List Stmt} {s₁ : Shared} {r : Addr} {b : Int} {t u v : Tok} {N₀ : Nat} (J : (Str → Option Value) → Prop) (hloc : env.locals = 66) (hA : A.handled = none) (hr : IsRange s₁.heap r 0 b 1 t u v)
    (hb : -(2 ^ 62) ≤ b ∧ b < 2 ^ 62) (hsz : (b - 0).toNat = N₀) (F : Fr g 66 s₁.heap m) (N : News g 66 s₁.heap news) (hJ : J m)
    (step : ∀ i t m₁ s₂ own, i < N₀ → J m₁ → Fr g 66 s₂.heap (fun y => if y = x then some (.int (i : Int) t) else m₁ y) → News g 66 s₂.heap (own ++ news) →
      wpAny (model Prg w) A (execs body env) (LoopStep g 66 (own ++ news) J s₂) EF s₂)
    (fin : ∀ h' tk m', Fr g 66 h' m' → News g 66 h' news → J m' → Q .next { s₁ with heap := h', toks := tk }) :
    wpAny (model Prg w) A (pyIter (.ref r)) (fun it s₂ => LoopAt Prg w A g env x body Q EF it s₂) EF s₁ := by
  refine wpAny_pyIter_range hr (small_one (by omega) (by omega) (by omega) (by omega)) ?_
  have hs : Builtin.Range.rangeSize 0 b 1 = (N₀ : Int) := by rw [rangeSize_nat, hsz]
  have up : ∀ (o' : Obj) b o, s₁.heap.get? b = some o → (s₁.heap.push o').get? b = some o := fun o' b o e => Heap.get?_push_of_some o' e
  have hlt : (66 : Nat) < s₁.heap.objs.size := F.ns.lt
  have hn : g.get? s₁.heap.objs.size = none := by
    cases e : g.get? s₁.heap.objs.size with
    | none => rfl
    | some o => exact absurd (Heap.lt_size (F.keep _ _ e)) (Nat.lt_irrefl _)
  refine ⟨s₁.heap.objs.size, [s₁.heap.objs.size], [s₁.heap.objs.size], N₀, _, _, m, news, fun _ m' => J m', rfl, LCg.range_walks hA 0 N₀, ?_, ?_, ?_, ?_, ?_, ?_, hJ, ?_, ?_⟩
  · rw [hloc]; intro h; exact absurd (List.mem_singleton.mp h) (Nat.ne_of_lt hlt)
  · intro b hb; rw [List.mem_singleton.mp hb]; exact hn
  · intro p hp h; exact absurd (List.mem_singleton.mp h) (Nat.ne_of_lt (Heap.lt_size (N p hp).1))
  · show IsRangeIter _ _ _ _ _
    rw [hs]; simpa using Heap.get?_push_size s₁.heap rfl
  · rw [hloc]; exact F.keeps (up _)
  · rw [hloc]; exact N.grown (up _)
  · rintro i v m₁ s₂ own hi ⟨t', rfl⟩ hJ' F' N'
    rw [hloc] at F' N' ⊢
    rw [Int.zero_add] at F'
    exact step i t' m₁ s₂ own hi hJ' F' N'
  · intro h' tk m' F' N' hJ'
    rw [hloc] at F' N'
    exact fin h' tk m' F' N' hJ'
theorem fr11_ok {Q : Flow → Shared → Prop} {S : Addr} {ys : List Value} {k : Nat} {t : Tok} (O : EnvOk env) (L : Pl n ax P U tx) (T : Tl w g n ax P tx pm R news) (far : FarOk n ax P pm) (F : Fr g 66 s.heap m) (N : News g 66 s.heap news)
    (hm : m (sq "steps") = some (.ref S)) (hk : m (sq "k") = some (.int (k : Int) t)) (hS : (S, LCg.lst ys) ∈ news) (hi : IntsAre ys (stI n ax P pm)) (hkn : k < n)
    (hA : A.handled = none) (hd : A.depth ≤ 600) (hu : A.units ≤ 5000) (hbm : behindInMarks .NotEq (cm11 q) = false) (hfs : ∀ x, foldedSetIterable (rk11 q kc) env x = pure x)
    (hp : (env.scope.kind == .class || (env.scope.kind == .module && env.locals != env.globals)) = false)
    (hQ : ∀ h' tk m', Fr g 66 h' m' → News g 66 h' news → m' (sq "steps") = some (.ref S) → Q .next { s with heap := h', toks := tk }) : wpAny (model Prg w) A (exec (fr11 q kc bd) env) Q EF s := by
  have h12 := L.n12
  refine For_inv g O.n hp ?_ hfs PassesOwn.never
  refine wpAny_Call_NameR (nm_built (T.bsh F) O.kind O.range O.glb O.blt (nmOk _).range bb_range (by decide) ?_)
  refine callWith_type1 (spliced_cons (wpAny_BinOp (nm_loc O.kind O.k (O.loc ▸ F.ns) hk (wpAny_Constant_int (sub_int (spliced_nil ?_))))))
  refine range1_rows (h₀ := g) (L := 66) (m := m) (news := news) F N fun h1 tk1 t1 u1 v1 r F1 N1 X1 => ?_
  refine rg_loop (N₀ := k - 1) (fun m' => m' (sq "steps") = some (.ref S) ∧ m' (sq "k") = some (.int (k : Int) t)) O.loc hA r (by omega) (by omega) F1 N1 ⟨hm, hk⟩ ?_ fun h' tk m' F' N' hJ => hQ h' tk m' F' N' hJ.1
  rintro i t' m₁ s₂ own hi' ⟨j1, j2⟩ F' N'
  have e1 : (fun y => if y = sq "n" then some (Value.int (i : Int) t') else m₁ y) (sq "steps") = some (.ref S) := by
    show (if sq "steps" = sq "n" then _ else _) = _
    rw [if_neg (by decide)]; exact j1
  have e2 : (fun y => if y = sq "n" then some (Value.int (i : Int) t') else m₁ y) (sq "k") = some (.int (k : Int) t) := by
    show (if sq "k" = sq "n" then _ else _) = _
    rw [if_neg (by decide)]; exact j2
  refine wpAny_execs_cons ?_
  refine if11_ok O L (T.mono fun p hp => List.mem_append_right _ hp) far F' N' e1 e2 (by show (if sq "n" = sq "n" then _ else _) = _; rw [if_pos rfl]) (List.mem_append_right _ hS) hi (by omega) hkn hA hd hu hbm fun h' tk F2 N2 => ?_
  exact wpAny_execs_nil (LoopStep.intro F2 N2 ⟨e1, e2⟩)
theorem s11_ok {Q : Flow → Shared → Prop} {S : Addr} {ys : List Value} (O : EnvOk env) (L : Pl n ax P U tx) (T : Tl w g n ax P tx pm R news) (far : FarOk n ax P pm) (F : Fr g 66 s.heap m) (N : News g 66 s.heap news)
    (hm : m (sq "steps") = some (.ref S)) (hS : (S, LCg.lst ys) ∈ news) (hi : IntsAre ys (stI n ax P pm))
    (hA : A.handled = none) (hd : A.depth ≤ 600) (hu : A.units ≤ 5000) (hbm : behindInMarks .NotEq (cm11 q) = false) (hfs : ∀ x, foldedSetIterable (rk11 q kc) env x = pure x)
    (hfs2 : ∀ x, foldedSetIterable (.Call (nm "range" (q 26)) [.Call (nm "len" (q 27)) [nm "row" (q 28)] [] (q 29)] [] (q 30)) env x = pure x)
    (hp : (env.scope.kind == .class || (env.scope.kind == .module && env.locals != env.globals)) = false)
    (hQ : ∀ h' tk m', Fr g 66 h' m' → News g 66 h' news → Q .next { s with heap := h', toks := tk }) : wpAny (model Prg w) A (exec (s11 q kc bd) env) Q EF s := by
  have h12 := L.n12
  refine For_inv g O.k hp ?_ hfs2 PassesOwn.never
  refine ev_range0 O T F N h12 fun r h1 tk1 t1 u1 v1 hr F1 N1 => ?_
  refine rg_loop (N₀ := n) (fun m' => m' (sq "steps") = some (.ref S)) O.loc hA hr (by omega) (by omega) F1 N1 hm ?_ fun h' tk m' F' N' hJ => hQ h' tk m' F' N'
  intro i t' m₁ s₂ own hi' j1 F' N'
  have e1 : (fun y => if y = sq "k" then some (Value.int (i : Int) t') else m₁ y) (sq "steps") = some (.ref S) := by
    show (if sq "steps" = sq "k" then _ else _) = _
    rw [if_neg (by decide)]; exact j1
  refine wpAny_execs_cons ?_
  refine fr11_ok O L (T.mono fun p hp => List.mem_append_right _ hp) far F' N' e1 (by show (if sq "k" = sq "k" then _ else _) = _; rw [if_pos rfl]) (List.mem_append_right _ hS) hi hi' hA hd hu hbm hfs hp fun h' tk m' F2 N2 e => ?_
  exact wpAny_execs_nil (LoopStep.intro F2 N2 e)
end
end Mine
end
section -- MTf
set_option maxRecDepth 100000
set_option linter.constructorNameAsVariable false
namespace Mine
noncomputable abbrev ps0 : Pos := ⟨0, 0, 0, 0⟩
noncomputable abbrev atq (l : List Pos) (i : Nat) : Pos := l.getD i ps0
noncomputable def pt8 : Option Stmt → List Pos × Scope
  | some (.Assign [.Name _ a7] (.ListComp (.Call (.Name _ a0) [.Name _ a1, .Name _ a2] [] a3) [⟨.Name _ a4, .Name _ a5, [], _⟩] sc a6) a8) => ([a0, a1, a2, a3, a4, a5, a6, a7, a8], sc)
  | _ => default
noncomputable def ptC (a9 a30 a31 : Pos) : Expr → List Pos × Scope × Nat × Nat
  | .ListComp (.Call (.Name _ b0) [.Subscript (.Name _ b1) (.Name _ b2) b3, .Subscript (.Name _ b4) (.BinOp (.Name _ b5) _ (.Constant _ kc b6) b7) b8, .Name _ b9] [] b10) [⟨.Name _ a7, .Call (.Name _ a0) [.BinOp (.Call (.Name _ a1) [.Name _ a2] [] a3) _ (.Constant _ kd a4) a5] [] a6, [], _⟩] sc a8 =>
    ([a0, a1, a2, a3, a4, a5, a6, a7, a8, a9, b0, b1, b2, b3, b4, b5, b6, b7, b8, b9, b10, ps0, ps0, ps0, ps0, ps0, ps0, ps0, ps0, ps0, a30, a31], sc, kc, kd)
  | _ => default
noncomputable def pt9 : Option Stmt → List Pos × Scope × Nat × Nat
  | some (.Assign [.Name _ a9] e a30) => ptC a9 a30 ps0 e
  | _ => default
noncomputable def pt10 : Option Stmt → (List Pos × Scope × Nat × Nat) × List Stmt
  | some (.If (.Compare (.Name _ a9) _ [e] a30) bd _ a31) => (ptC a9 a30 a31 e, bd)
  | _ => default
noncomputable def ptM : Expr → List Pos
  | .Call (.Name _ a0) [.Subscript (.Name _ a1) (.Slice (some (.Name _ a2)) (some (.Name _ a3)) _ a4) a5] [] a6 => [a0, a1, a2, a3, a4, a5, a6]
  | _ => []
noncomputable def ptZ : Expr → List Pos
  | .Call (.Name _ a7) [.Subscript (.Name _ a8) (.Name _ a9) a10, .Subscript (.Name _ a11) (.Name _ a12) a13, .Name _ a14] [] a15 => [a7, a8, a9, a10, a11, a12, a13, a14, a15]
  | _ => []
noncomputable def ptI : Stmt → List Pos × List Stmt
  | .If (.Compare z _ [c] a16) bd _ a17 => (ptM c ++ ptZ z ++ [a16, a17], bd)
  | _ => default
noncomputable def ptN : Stmt → List Pos × Nat × List Stmt
  | .For (.Name _ a23) (.Call (.Name _ a18) [.BinOp (.Name _ a19) _ (.Constant _ kc a20) a21] [] a22) [i] _ a24 => ((ptI i).1 ++ [a18, a19, a20, a21, a22, a23, a24], kc, (ptI i).2)
  | _ => default
noncomputable def pt11 : Option Stmt → List Pos × Nat × List Stmt
  | some (.For (.Name _ a25) (.Call (.Name _ a26) [.Call (.Name _ a27) [.Name _ a28] [] a29] [] a30) [i] _ a31) => ((ptN i).1 ++ [a25, a26, a27, a28, a29, a30, a31], (ptN i).2)
  | _ => default
noncomputable def pt12 : Option Stmt → Nat × Pos × Pos
  | some (.Return (some (.Constant _ k p)) r) => (k, p, r)
  | _ => (0, ps0, ps0)
noncomputable abbrev z8 (P : Params) := pt8 ((bodyAt P 64)[7]?)
noncomputable abbrev z9 (P : Params) := pt9 ((bodyAt P 64)[8]?)
noncomputable abbrev z10 (P : Params) := pt10 ((bodyAt P 64)[9]?)
noncomputable abbrev z11 (P : Params) := pt11 ((bodyAt P 64)[10]?)
noncomputable abbrev z12 (P : Params) := pt12 ((bodyAt P 64)[11]?)
/-- law's last five statements, of their shapes, sealed -/
structure Sh (env : Env) (b : List Stmt) (q8 q9 q10 q11 : Nat → Pos) (sc8 sc9 sc10 : Scope) (kc9 kd9 kc10 kd10 kc11 k12 : Nat) (bd10 bd11 : List Stmt) (p12 r12 : Pos) : Prop where
  eq : b = [.Assign [nm "texts" (q8 7)] (e8 q8 sc8) (q8 8), .Assign [nm "steps" (q9 9)] (e9 "_law_size" "row" q9 kc9 kd9 sc9) (q9 30),
    .If (.Compare (nm "steps" (q10 9)) [.NotEq] [e9 "_law_parting" "texts" q10 kc10 kd10 sc10] (q10 30)) bd10 [] (q10 31), s11 q11 kc11 bd11, .Return (some (.Constant (.bool true) k12 p12)) r12]
  c8 : CoOk env sc8 cl8 (sq "point")
  c9 : CoOk env sc9 cl9 (sq "k")
  c10 : CoOk env sc10 cl10 (sq "k")
  v8 : ∀ C, EvX (compEnvC sc8 cl8 C env)
  v9 : ∀ C, EvS (compEnvC sc9 cl9 C env)
  v10 : ∀ C, EvT (compEnvC sc10 cl10 C env)
  k9 : ∀ C, (compEnvC sc9 cl9 C env).kindOf (sq "k") = some .local
  k10 : ∀ C, (compEnvC sc10 cl10 C env).kindOf (sq "k") = some .local
  w8 : swapsWith (e8 q8 sc8) (some (nm "texts" (q8 7))) (q8 8).line env = pure false
  w9 : swapsWith (e9 "_law_size" "row" q9 kc9 kd9 sc9) (some (nm "steps" (q9 9))) (q9 30).line env = pure true
  hp : (env.scope.kind == .class || (env.scope.kind == .module && env.locals != env.globals)) = false
  b10 : behindInMarks .NotEq (e9 "_law_parting" "texts" q10 kc10 kd10 sc10) = false
  b11 : behindInMarks .NotEq (cm11 q11) = false
  f1 : ∀ x, foldedSetIterable (rk11 q11 kc11) env x = pure x
  f2 : ∀ x, foldedSetIterable (.Call (nm "range" (q11 26)) [.Call (nm "len" (q11 27)) [nm "row" (q11 28)] [] (q11 29)] [] (q11 30)) env x = pure x
theorem sh_ok (P : Params) : Sh (envL P) ((bodyAt P 64).drop 7) (atq (z8 P).1) (atq (z9 P).1) (atq (z10 P).1.1) (atq (z11 P).1) (z8 P).2 (z9 P).2.1 (z10 P).1.2.1 (z9 P).2.2.1 (z9 P).2.2.2 (z10 P).1.2.2.1 (z10 P).1.2.2.2 (z11 P).2.1 (z12 P).1 (z10 P).2 (z11 P).2.2 (z12 P).2.1 (z12 P).2.2 where
  eq := by kernel_rfl
  c8 := ⟨by kernel_rfl, by kernel_rfl, by kernel_rfl, by kernel_rfl, by kernel_rfl⟩
  c9 := ⟨by kernel_rfl, by kernel_rfl, by kernel_rfl, by kernel_rfl, by kernel_rfl⟩
  c10 := ⟨by kernel_rfl, by kernel_rfl, by kernel_rfl, by kernel_rfl, by kernel_rfl⟩
  v8 := fun C => ⟨by kernel_rfl, by kernel_rfl, by kernel_rfl, by kernel_rfl, by kernel_rfl, by kernel_rfl⟩
  v9 := fun C => ⟨by kernel_rfl, by kernel_rfl, by kernel_rfl, by kernel_rfl, by kernel_rfl, by kernel_rfl, by kernel_rfl⟩
  v10 := fun C => ⟨by kernel_rfl, by kernel_rfl, by kernel_rfl, by kernel_rfl, by kernel_rfl, by kernel_rfl, by kernel_rfl⟩
  k9 := fun C => by kernel_rfl
  k10 := fun C => by kernel_rfl
  w8 := by kernel_rfl
  w9 := by kernel_rfl
  hp := by kernel_rfl
  b10 := by kernel_rfl
  b11 := by kernel_rfl
  f1 := fun x => by kernel_rfl
  f2 := fun x => by kernel_rfl
end Mine
end
section -- MTg
set_option maxRecDepth 100000
set_option linter.constructorNameAsVariable false
namespace Mine
section
variable {w : World} {A : Around} {s : Shared} {env : Env} {g : Heap} {n ax : Nat} {P : Nat → List Int} {U : List Int} {tx : Nat → Str} {pm : List Nat} {R : Addr} {news : List (Addr × Obj)} {m : Str → Option Value}
theorem tail_ok {Q : Flow → Shared → Prop} {b : List Stmt} {q8 q9 q10 q11 : Nat → Pos} {sc8 sc9 sc10 : Scope} {kc9 kd9 kc10 kd10 kc11 k12 : Nat} {bd10 bd11 : List Stmt} {p12 r12 : Pos}
    (Z : Sh env b q8 q9 q10 q11 sc8 sc9 sc10 kc9 kd9 kc10 kd10 kc11 k12 bd10 bd11 p12 r12) (O : EnvOk env) (L : Pl n ax P U tx) (T : Tl w g n ax P tx pm R news) (far : FarOk n ax P pm) (F : Fr g 66 s.heap m) (N : News g 66 s.heap news)
    (h70 : ∃ o v, (70, o) ∈ news ∧ o.data = .cell v) (hA : A.handled = none) (hd : A.depth ≤ 600) (hu : A.units ≤ 5000)
    (hQ : ∀ h' tk m', Fr g 66 h' m' → (∀ p ∈ news, p.1 ≠ 70 → h'.get? p.1 = some p.2) → Q (.ret (.bool true)) { s with heap := h', toks := tk }) : wpAny (model Prg w) A (execs b env) Q EF s := by
  rw [Z.eq]
  refine wpAny_execs_cons (s8_ok O Z.c8 Z.v8 Z.w8 L T F N h70 hA hd fun h1 tk1 D1 n1 F1 N1 T1 X1 kp => ?_)
  refine wpAny_execs_cons (s9_ok O Z.c9 Z.v9 Z.k9 Z.w9 Z.hp L T1 F1 N1 hA hd hu fun h2 tk2 D2 ys F2 N2 I2 => ?_)
  have T2 := T1.mono (fun p hp => (List.mem_cons_of_mem (D2, LCg.lst ys) hp))
  have X2 := X1.mono (fun p hp => (List.mem_cons_of_mem (D2, LCg.lst ys) hp))
  have m2 : (fun z => if z = sq "steps" then some (Value.ref D2) else m z) (sq "steps") = some (.ref D2) := by
    show (if sq "steps" = sq "steps" then _ else _) = _; rw [if_pos rfl]
  refine wpAny_execs_cons (s10_ok O Z.c10 Z.v10 Z.k10 Z.b10 L T2 X2 F2 N2 m2 (.head _) I2 hA hd hu fun h3 tk3 F3 N3 => ?_)
  refine wpAny_execs_cons (s11_ok O L T2 far F3 N3 m2 (.head _) I2 hA hd hu Z.b11 Z.f1 Z.f2 Z.hp fun h4 tk4 m4 F4 N4 => ?_)
  exact wpAny_execs_cons (wpAny_Return_some (wpAny_Constant_bool (hQ h4 tk4 m4 F4 fun p hp hne => (N4 _ (List.mem_cons_of_mem _ (kp p hp hne))).1)))
end
end Mine
end
section -- MXc
set_option maxRecDepth 100000
set_option linter.constructorNameAsVariable false
set_option linter.unusedVariables false
namespace Mine
/-- where law is called, sealed -/
structure Sta (w : World) (h : Heap) (vs : List Value) : Prop where
  kt : KH (KT65 w.params) h
  size : h.objs.size = 66
  l65 : h.get? 65 = some (lst vs 0)
  bs : Bs w (bas h)
  lim : h.NoLimit
structure TabAt (P : Params) (a c : Addr) : Prop where
  co : (KT65 P).get c = some (objAt P c)
  cls : objAt P c = { objAt P c with cls := .type "code", data := .fields (fldAt P c) }
  ref : (fldAt P c)[11]? = some (.ref a)
  tab : (KT65 P).get a = some (tableObj #[])
theorem tab_61 (P : Params) : TabAt P 61 63 := ⟨by kernel_rfl, by kernel_rfl, by kernel_rfl, by kernel_rfl⟩
theorem tab_23 (P : Params) : TabAt P 23 27 := ⟨by kernel_rfl, by kernel_rfl, by kernel_rfl, by kernel_rfl⟩
theorem TabAt.at {P : Params} {a c : Addr} (T : TabAt P a c) {h : Heap} (K : KH (KT65 P) h) : ∃ c, h.TableAt c a #[] := table_kt K.k T.co T.cls T.ref T.tab
theorem tabs_of {P : Params} {h : Heap} (K : KH (KT65 P) h) (a : Addr) (vs : Array Value) (e : chLook [(61, #[]), (23, #[])] a = some vs) : ∃ c, h.TableAt c a vs :=
  tabs_ok (l := [(61, #[]), (23, #[])]) (And.intro ((tab_61 P).at K) (And.intro ((tab_23 P).at K) trivial)) a vs e
theorem kh_put {t : KT} {h : Heap} (K : KH t h) {a : Addr} {o : Obj} (e : h.get? a = some o) : KH (t.put 40 a o) h := KH.mk (KT.Holds.put 40 K.k (by rw [Nat.one_mul, Nat.add_zero]; exact e))
theorem vl_ok {w : World} {h : Heap} {d : Drawn} {tk : Nat} {os : OsState} {vs : List Value} (S : Sta w h vs) : (VL w h d tk os vs).Ok := XV.Ok.mk S.size (kh_put S.kt S.l65).k (tabs_of S.kt)
/-- behind points -/
structure Aft (w : World) (h h5 : Heap) (n ax : Nat) (P : Nat → List Int) (U : List Int) (tx : Nat → Str) : Prop where
  pb : Pb w h5 n ax P U tx
  fr : ∃ m, Fr (bas h) 66 h5 m ∧ m (sq "points") = some (.ref 86)
  c69 : h5.get? 69 = some celN
  c70 : h5.get? 70 = some celN
  size : h5.objs.size = 91 + 12 * n
  keep : Ext h h5
theorem strKeys_of : ∀ {l : List DictEntry}, strKeysB l = true → ∀ e ∈ l, ∃ n t, e.key = .str n t
  | [], _, _, h => nomatch h
  | e :: l, hb, x, hx => by
    unfold strKeysB at hb
    split at hb
    · rename_i n t hk
      rcases List.mem_cons.mp hx with rfl | hx
      · exact ⟨n, t, hk⟩
      · exact strKeys_of hb x hx
    · cases hb
theorem frame_of {o : Option Obj} {v : Value} (e : frameB o = some (some v)) : ∃ o' es ep, o = some o' ∧ o'.data = .dict es ep ∧ StrKeys es ∧ nsFind es (Str.ofString "points") = some v := by
  unfold frameB at e
  split at e
  · rename_i c dd es ep sl
    split at e
    · rename_i hb
      simp only [Option.some.injEq] at e
      exact ⟨_, es, ep, rfl, rfl, fun x hx => strKeys_of hb x (by simpa using hx), e⟩
    · cases e
  · cases e
theorem pre_out {x : Option (Env × RS)} {ix : List Nat} {env : Env} {m : Nat} {ch : Ch} {ob : List (Int × Int)} {os : List (Option Obj)} {f : Option (Option Value)} (e : preOut x ix = some (env, m, ch, ob, os, f)) :
    ∃ st, x = some (env, st) ∧ st.m = m ∧ st.ch = ch ∧ st.ob = ob ∧ ix.map st.T.get = os ∧ frameB (st.T.get 0) = f := by
  cases x with
  | none => cases e
  | some y =>
    obtain ⟨env', st⟩ := y
    simp only [preOut, Option.some.injEq, Prod.mk.injEq] at e
    obtain ⟨rfl, e1, e2, e3, e4, e5⟩ := e
    exact ⟨st, rfl, e1, e2, e3, e4, e5⟩
theorem ptO_ints {ax tk j : Nat} {xs : List Int} (hax : ax = 2 ∨ ax = 3) : IntsO (ptO ax tk j (xs.getD j 0)) (PF ax xs j) := by
  rcases hax with rfl | rfl
  · exact ⟨_, 0, rfl, .cons _ _ (.cons _ _ (.cons _ _ .nil))⟩
  · exact ⟨_, 0, rfl, .cons _ _ (.cons _ _ (.cons _ _ (.cons _ _ .nil)))⟩
theorem tuO_ints {ax tk : Nat} {hx : Int} (hax : ax = 2 ∨ ax = 3) : IntsO (tuO ax tk hx) (UF ax hx) := by
  rcases hax with rfl | rfl
  · exact ⟨_, 2, rfl, .cons _ _ (.cons _ _ .nil)⟩
  · exact ⟨_, 3, rfl, .cons _ _ (.cons _ _ (.cons _ _ .nil))⟩
theorem ptO_text {w : World} {ax tk j : Nat} {xs : List Int} {hx : Int} (hax : ax = 2 ∨ ax = 3) : TextO w (100 + 12 * j) (ptO ax tk j (xs.getD j 0)) (tuO ax tk hx) (txF ax hx xs j) := by
  intro s A Q E K h1 h2 hA hd hQ
  rcases hax with rfl | rfl
  · exact text2_code w s _ 76 _ _ _ _ _ _ _ _ _ _ _ _ A Q E K h1 h2 hA hd hQ
  · exact text3_code w s _ 76 _ _ _ _ _ _ _ _ _ _ _ _ _ _ _ _ A Q E K h1 h2 hA hd hQ
theorem idx_at {n : Nat} {f : Nat → Option Obj} {a : List (Option Obj)} {b : Nat → Option Obj} (ha : a.length = 7) (e : (idxs n).map f = a ++ (List.range n).map b) :
    (∀ i (hi : i < 7), f ([1, 2, 3, 4, 5, 10, 20][i]) = a[i]) ∧ ∀ j, j < n → f (34 + 12 * j) = b j := by
  unfold idxs at e
  rw [List.map_append, List.map_map] at e
  obtain ⟨e1, e2⟩ := List.append_inj e (by simp [ha])
  refine ⟨fun i hi => ?_, fun j hj => ?_⟩
  · subst e1
    rw [List.getElem_map]
  · have := List.map_inj_left.mp e2 j (List.mem_range.mpr hj)
    exact this
theorem aft_of {w : World} {h h5 : Heap} {vs : List Value} {d : Drawn} {tk : Nat} {os : OsState} {ax : Nat} {hv : Value} {hx : Int} {xs : List Int} {T : BT} (S : Sta w h vs) (hax : ax = 2 ∨ ax = 3) (h12 : xs.length ≤ 12)
    (D : Rep (VL w h d tk os vs) h5 T (25 + 12 * xs.length) []) (eo : (idxs xs.length).map T.get = preObjs ax tk hv hx xs) (ef : frameB (T.get 0) = some (some (.ref 86))) :
    Aft w h h5 xs.length ax (PF ax xs) (UF ax hx) (txF ax hx xs) := by
  obtain ⟨e1, e2⟩ := idx_at (a := [some (celO hv), some (celO (.int (ax : Int) (tk + 6))), some celN, some celN, some (celO (.ref 76)), some (tuO ax tk hx), some (lst (refs xs.length) xs.length)]) rfl eo
  have own : ∀ i o, T.get i = some o → h5.get? (66 + i) = some o := fun i o e => (D.own i o e).2
  have keep : Ext h h5 := fun b o e => D.keep b o e rfl
  obtain ⟨o', es, ep, q1, q2, q3, q4⟩ := frame_of ef
  have no61 : ∀ a, a = 61 ∨ a = 23 → (bas h).get? a = none := fun a ha => hideAll_none _ (by rcases ha with rfl | rfl <;> simp)
  have no66 : ∀ a, 66 ≤ a → (bas h).get? a = none := fun a ha => Heap.get?_none_of_le (by rw [bas_size, S.size]; exact ha)
  have kb : Ext (bas h) h5 := fun b o e => keep _ _ (bas_ext h _ _ e)
  refine ⟨⟨⟨bas h, S.bs, kb, no66, no61 _ (.inl rfl), no61 _ (.inr rfl)⟩, ⟨fun j => ptO ax tk j (xs.getD j 0), tuO ax tk hx, fun j hj => ?_, own 10 _ (e1 5 (by decide)), fun j hj => ptO_ints hax, tuO_ints hax, fun j hj => ptO_text hax⟩, ⟨_, own 2 _ (e1 1 (by decide))⟩, own 5 _ (e1 4 (by decide)), own 20 _ (e1 6 (by decide))⟩,
    ⟨fun z => nsFind es z, ⟨⟨o', es, ep, own 0 _ q1, q2, q3, fun _ => rfl⟩, kb, by rw [bas_size, S.size]; exact Nat.le_refl _⟩, q4⟩, own 3 _ (e1 2 (by decide)), own 4 _ (e1 3 (by decide)), ?_, keep⟩
  · have := own _ _ (e2 j hj)
    rw [show 66 + (34 + 12 * j) = 100 + 12 * j by omega] at this
    exact this
  · rw [D.size]
    show 66 + (25 + 12 * xs.length) = _
    omega
theorem law_pre {b : Bool} {w : World} {h : Heap} {g : Array GenState} {d : Drawn} {tk : Nat} {os : OsState} {vs : List Value} {ax : Nat} {hv : Value} {hx : Int} {xs : List Int} {ob : List (Int × Int)} {A : Around} {R : Result → Shared → Prop} (S : Sta (pin1 w b) h vs)
    (Z : PreRan (pin1 w b) h d tk os vs ax hv hx xs ob) (ho : ObOk ob) (hax : ax = 2 ∨ ax = 3) (h12 : xs.length ≤ 12) (hA : A.handled = none) (hroom : A.depth < recursionLimit)
    (H : ∀ h5 tk5, Aft (pin1 w b) h h5 xs.length ax (PF ax xs) (UF ax hx) (txF ax hx xs) → wpAny (model Prg (pin1 w b)) (A.deeper (envL (pin1 w b).params)) (execs ((bodyAt (pin1 w b).params 64).drop 5) (envL (pin1 w b).params)) (fun f s' => R (.ok (.ret (match f with | .ret v => v | _ => .none))) s') EF ⟨h5, g, d, tk5, os⟩) :
    codeAny (model Prg (pin1 w b)) A (.call (.ref 64) ⟨[.ref 65], []⟩) R ⟨h, g, d, tk, os⟩ := by
  obtain ⟨st, e, em, ec, eb, eo, ef⟩ := pre_out Z.e
  have F := def_law (pin1 w b).params
  have O := vl_ok (d := d) (tk := tk) (os := os) S
  have hob : ObOk st.ob := by rw [eb]; exact ho
  refine preRun_sound (V := VL (pin1 w b) h d tk os vs) O (g := g) (st := rs0 [(7, (ax : Int))]) (kh_at S.kt F.obj) (kh_at S.kt F.cobj) S.lim F e hA hroom (Rep.start O) hob fun h5 D => ?_
  rw [em, ec] at D
  exact H h5 _ (aft_of S hax h12 D eo ef)
end Mine
end
section -- MLtC
set_option maxRecDepth 100000
set_option linter.constructorNameAsVariable false
namespace Mine
theorem lt_5_t (tk0 x y dx dy a b n : Nat) (w : World) (h : Heap) (d : Drawn) (tk : Nat) (os : OsState) : LtRan 151 tk0 x y dx dy a b n (pin1 w true) h d tk os := ⟨by kernel_rfl⟩
theorem lt_5_f (tk0 x y dx dy a b n : Nat) (w : World) (h : Heap) (d : Drawn) (tk : Nat) (os : OsState) : LtRan 151 tk0 x y dx dy a b n (pin1 w false) h d tk os := ⟨by kernel_rfl⟩
theorem lt_6_t (tk0 x y dx dy a b n : Nat) (w : World) (h : Heap) (d : Drawn) (tk : Nat) (os : OsState) : LtRan 163 tk0 x y dx dy a b n (pin1 w true) h d tk os := ⟨by kernel_rfl⟩
theorem lt_6_f (tk0 x y dx dy a b n : Nat) (w : World) (h : Heap) (d : Drawn) (tk : Nat) (os : OsState) : LtRan 163 tk0 x y dx dy a b n (pin1 w false) h d tk os := ⟨by kernel_rfl⟩
theorem lt_7_t (tk0 x y dx dy a b n : Nat) (w : World) (h : Heap) (d : Drawn) (tk : Nat) (os : OsState) : LtRan 175 tk0 x y dx dy a b n (pin1 w true) h d tk os := ⟨by kernel_rfl⟩
theorem lt_7_f (tk0 x y dx dy a b n : Nat) (w : World) (h : Heap) (d : Drawn) (tk : Nat) (os : OsState) : LtRan 175 tk0 x y dx dy a b n (pin1 w false) h d tk os := ⟨by kernel_rfl⟩
theorem lt_8_t (tk0 x y dx dy a b n : Nat) (w : World) (h : Heap) (d : Drawn) (tk : Nat) (os : OsState) : LtRan 187 tk0 x y dx dy a b n (pin1 w true) h d tk os := ⟨by kernel_rfl⟩
theorem lt_8_f (tk0 x y dx dy a b n : Nat) (w : World) (h : Heap) (d : Drawn) (tk : Nat) (os : OsState) : LtRan 187 tk0 x y dx dy a b n (pin1 w false) h d tk os := ⟨by kernel_rfl⟩
theorem lt_9_t (tk0 x y dx dy a b n : Nat) (w : World) (h : Heap) (d : Drawn) (tk : Nat) (os : OsState) : LtRan 199 tk0 x y dx dy a b n (pin1 w true) h d tk os := ⟨by kernel_rfl⟩
theorem lt_9_f (tk0 x y dx dy a b n : Nat) (w : World) (h : Heap) (d : Drawn) (tk : Nat) (os : OsState) : LtRan 199 tk0 x y dx dy a b n (pin1 w false) h d tk os := ⟨by kernel_rfl⟩
theorem lt_10_t (tk0 x y dx dy a b n : Nat) (w : World) (h : Heap) (d : Drawn) (tk : Nat) (os : OsState) : LtRan 211 tk0 x y dx dy a b n (pin1 w true) h d tk os := ⟨by kernel_rfl⟩
theorem lt_10_f (tk0 x y dx dy a b n : Nat) (w : World) (h : Heap) (d : Drawn) (tk : Nat) (os : OsState) : LtRan 211 tk0 x y dx dy a b n (pin1 w false) h d tk os := ⟨by kernel_rfl⟩
theorem lt_11_t (tk0 x y dx dy a b n : Nat) (w : World) (h : Heap) (d : Drawn) (tk : Nat) (os : OsState) : LtRan 223 tk0 x y dx dy a b n (pin1 w true) h d tk os := ⟨by kernel_rfl⟩
theorem lt_11_f (tk0 x y dx dy a b n : Nat) (w : World) (h : Heap) (d : Drawn) (tk : Nat) (os : OsState) : LtRan 223 tk0 x y dx dy a b n (pin1 w false) h d tk os := ⟨by kernel_rfl⟩
theorem lt_12_t (tk0 x y dx dy a b n : Nat) (w : World) (h : Heap) (d : Drawn) (tk : Nat) (os : OsState) : LtRan 235 tk0 x y dx dy a b n (pin1 w true) h d tk os := ⟨by kernel_rfl⟩
theorem lt_12_f (tk0 x y dx dy a b n : Nat) (w : World) (h : Heap) (d : Drawn) (tk : Nat) (os : OsState) : LtRan 235 tk0 x y dx dy a b n (pin1 w false) h d tk os := ⟨by kernel_rfl⟩
end Mine
end
section -- MLtD
set_option maxRecDepth 100000
set_option linter.constructorNameAsVariable false
namespace Mine
theorem lam_co (P : Params) (N : Nat) : (fdLam P N).scope.isCoroutine = false := by kernel_rfl
theorem lam_gen (P : Params) (N : Nat) : (fdLam P N).scope.isGenerator = false := by kernel_rfl
theorem lam_se (P : Params) (env : Env) : backTo (lap P).q (starEach [(lap P).a, (lap P).b, (lap P).c] env) = [(lap P).a, (lap P).b, (lap P).c].map fun e => (false, eval e env) := by kernel_rfl
theorem lam_name (P : Params) (N tk : Nat) (h : Heap) (e : h.get? (N + 6) = some (oLamC tk N)) : h.CodeRec (fdLam P N).code (fdLam P N).qualname := ⟨N + 6, _, _, _, rfl, e, rfl, rfl⟩
theorem lam_body (P : Params) (N : Nat) : (fdLam P N).body = .expr (.Call (.Name (lap P).id (lap P).p) [(lap P).a, (lap P).b, (lap P).c] [] (lap P).q) := congrArg FuncBody.expr (la_bd P)
structure FnAt (P : Params) (a : Addr) : Prop where
  obj : (KT2 P).get a = some (objAt P a)
  data : (objAt P a).data = .func (fdAt P a)
theorem fn44 (P : Params) : FnAt P 44 := ⟨by kernel_rfl, by kernel_rfl⟩
theorem la_ee (N a b : Nat) (w : World) (h : Heap) (d : Drawn) (tk : Nat) (os : OsState) : EeRan KT2 w h h.objs.size d tk os [(71, celO (.ref 76))] (fdLam w.params N) (N + 7) [.ref a, .ref b] [.Name (lap w.params).id (lap w.params).p, (lap w.params).a, (lap w.params).b, (lap w.params).c] orcA [.ref 44, .ref a, .ref b, .ref 76] :=
  EeRan.mk (la_ran N a b h.objs.size w h d tk os).e
theorem lam_at {w : World} {s : Shared} {A : Around} {Q E : Value → Shared → Prop} {n ax N tk0 i j : Nat} {P : Nat → List Int} {U : List Int} {tx : Nat → Str} (B : Pb w s.heap n ax P U tx) (L : Pl n ax P U tx) (hl : s.heap.get? (N + 7) = some (oLam w.params N)) (hc : s.heap.get? (N + 6) = some (oLamC tk0 N))
    (hi : i < n) (hj : j < n) (hA : A.handled = none) (hd : A.depth ≤ 600) (hu : A.units ≤ 5000)
    (hQ : ∀ h' tk t, Ext s.heap h' → Q (.int (turnF (P i) (P j) U) t) { s with heap := h', toks := tk }) :
    wpAny (model Prg w) A (call (.ref (N + 7)) [.ref (100 + 12 * i), .ref (100 + 12 * j)]) Q E s := by
  obtain ⟨h, g, d, tk, os⟩ := s
  have hr : (1000 : Nat) = recursionLimit := rfl
  have F := fn44 w.params
  refine ee_expr (la_ee N (100 + 12 * i) (100 + 12 * j) w h d tk os) rfl B.bs.kn.kt B.bs.kn.lim (old1 B.c71) hl rfl (lam_co _ _) (lam_gen _ _) (lam_body _ _) (lam_name _ _ _ _ hc) hA (by omega) (lam_se _) (kh_at B.bs.kn.kt F.obj) F.data fun env h2 tk2 X => ?_
  have B2 := B.keeps X
  obtain ⟨v1, a1, i1⟩ := (B2.pt i hi).lst
  obtain ⟨v2, a2, i2⟩ := (B2.pt j hj).lst
  obtain ⟨v3, a3, i3⟩ := B2.tu.lst
  refine turn_at (s := ⟨h2, g, d, tk2, os⟩) B2.bs a1 a2 a3 i1 i2 i3 ?_ ?_ ?_ hA ?_ ?_ fun h' tk' t X' => hQ h' tk' t fun b o q => X' b o (X b o q)
  · rw [L.pl, L.ul]; omega
  · rw [L.pl, L.ul]; omega
  · rw [L.ul]; exact L.a3
  · show A.depth + 1 ≤ 700; omega
  · show A.units + 3 ≤ 6000; omega
theorem lt_co (P : Params) (N : Nat) : (fdLt P N).scope.isCoroutine = false := by kernel_rfl
theorem lt_gen (P : Params) (N : Nat) : (fdLt P N).scope.isGenerator = false := by kernel_rfl
theorem lt_se (P : Params) (env : Env) : backTo (ltp P).q (starEach [(ltp P).a, (ltp P).b] env) = [(ltp P).a, (ltp P).b].map fun e => (false, eval e env) := by kernel_rfl
theorem lt_name (P : Params) (N tk : Nat) (h : Heap) (e : h.get? (N + 31) = some (oLtC tk N)) : h.CodeRec (fdLt P N).code (fdLt P N).qualname := ⟨N + 31, _, _, _, rfl, e, rfl, rfl⟩
theorem lt_body (P : Params) (N : Nat) : (fdLt P N).body = .stmts [.Return (some (.Compare (.Call (.Name (ltp P).id (ltp P).p) [(ltp P).a, (ltp P).b] [] (ltp P).q) [.Lt] [.Constant (.int 0) (ltp P).k (ltp P).pc] (ltp P).r)) (ltp P).t] := congrArg FuncBody.stmts (lt_bd P)
/-- the eight sizes -/
theorem lt_any (n : Nat) (h5 : 5 ≤ n) (h12 : n ≤ 12) (b : Bool) (tk0 x y dx dy a c m : Nat) (w : World) (h : Heap) (d : Drawn) (tk : Nat) (os : OsState) : LtRan (91 + 12 * n) tk0 x y dx dy a c m (pin1 w b) h d tk os := by
  have : n = 5 ∨ n = 6 ∨ n = 7 ∨ n = 8 ∨ n = 9 ∨ n = 10 ∨ n = 11 ∨ n = 12 := by omega
  rcases this with rfl | rfl | rfl | rfl | rfl | rfl | rfl | rfl <;> cases b
  · exact lt_5_f tk0 x y dx dy a c m w h d tk os
  · exact lt_5_t tk0 x y dx dy a c m w h d tk os
  · exact lt_6_f tk0 x y dx dy a c m w h d tk os
  · exact lt_6_t tk0 x y dx dy a c m w h d tk os
  · exact lt_7_f tk0 x y dx dy a c m w h d tk os
  · exact lt_7_t tk0 x y dx dy a c m w h d tk os
  · exact lt_8_f tk0 x y dx dy a c m w h d tk os
  · exact lt_8_t tk0 x y dx dy a c m w h d tk os
  · exact lt_9_f tk0 x y dx dy a c m w h d tk os
  · exact lt_9_t tk0 x y dx dy a c m w h d tk os
  · exact lt_10_f tk0 x y dx dy a c m w h d tk os
  · exact lt_10_t tk0 x y dx dy a c m w h d tk os
  · exact lt_11_f tk0 x y dx dy a c m w h d tk os
  · exact lt_11_t tk0 x y dx dy a c m w h d tk os
  · exact lt_12_f tk0 x y dx dy a c m w h d tk os
  · exact lt_12_t tk0 x y dx dy a c m w h d tk os
theorem lt_ee (n : Nat) (h5 : 5 ≤ n) (h12 : n ≤ 12) (b : Bool) (tk0 x y dx dy a c : Nat) (w : World) (h : Heap) (d : Drawn) (tk : Nat) (os : OsState) : EeRan (KTC (91 + 12 * n) tk0) (pin1 w b) h h.objs.size d tk os [(x, inst (91 + 12 * n) dx a), (y, inst (91 + 12 * n) dy c)] (fdLt (pin1 w b).params (91 + 12 * n)) (91 + 12 * n + 32) [.ref x, .ref y] [.Name (ltp (pin1 w b).params).id (ltp (pin1 w b).params).p, (ltp (pin1 w b).params).a, (ltp (pin1 w b).params).b] orcL [.ref (91 + 12 * n + 7), .ref a, .ref c] :=
  EeRan.mk (lt_any n h5 h12 b tk0 x y dx dy a c h.objs.size w h d tk os).e
/-- the class's objects, sealed -/
structure CkAt (w : World) (h : Heap) (tk0 N : Nat) : Prop where
  kt : KH (KTC N tk0 w.params) h
  lam : h.get? (N + 7) = some (oLam w.params N)
  lamC : h.get? (N + 6) = some (oLamC tk0 N)
  lt : h.get? (N + 32) = some (oLt w.params N)
  ltC : h.get? (N + 31) = some (oLtC tk0 N)
  cls : h.get? (N + 68) = some (oCls tk0 N)
  ns : h.get? (N + 67) = some (oNs w.params tk0 N)
theorem CkAt.keeps {w : World} {h h' : Heap} {tk0 N : Nat} (C : CkAt w h tk0 N) (x : Ext h h') : CkAt w h' tk0 N :=
  ⟨C.kt.keeps x, x _ _ C.lam, x _ _ C.lamC, x _ _ C.lt, x _ _ C.ltC, x _ _ C.cls, x _ _ C.ns⟩
theorem ltm_at {w : World} {b : Bool} {s : Shared} {A : Around} {Q E : Value → Shared → Prop} {n ax tk0 i j x y dx dy : Nat} {P : Nat → List Int} {U : List Int} {tx : Nat → Str} (B : Pb (pin1 w b) s.heap n ax P U tx) (L : Pl n ax P U tx) (C : CkAt (pin1 w b) s.heap tk0 (91 + 12 * n))
    (hx : s.heap.get? x = some (inst (91 + 12 * n) dx (100 + 12 * i))) (hy : s.heap.get? y = some (inst (91 + 12 * n) dy (100 + 12 * j)))
    (hi : i < n) (hj : j < n) (hA : A.handled = none) (hd : A.depth ≤ 500) (hu : A.units ≤ 4000)
    (hQ : ∀ h' tk, Ext s.heap h' → Q (.bool (decide (turnF (P i) (P j) U < 0))) { s with heap := h', toks := tk }) :
    wpAny (model Prg (pin1 w b)) A (call (.ref (91 + 12 * n + 32)) [.ref x, .ref y]) Q E s := by
  obtain ⟨h, g, d, tk, os⟩ := s
  have hr : (1000 : Nat) = recursionLimit := rfl
  refine ee_lt (lt_ee n L.n5 L.n12 b tk0 x y dx dy (100 + 12 * i) (100 + 12 * j) w h d tk os) rfl C.kt B.bs.kn.lim (old2 hx hy) C.lt rfl (lt_co _ _) (lt_gen _ _) (lt_body _ _) (lt_name _ _ _ _ C.ltC) hA (by omega) (lt_se _) C.lam rfl fun env h2 tk2 X => ?_
  refine lam_at (s := ⟨h2, g, d, tk2, os⟩) (B.keeps X) L (C.keeps X).lam (C.keeps X).lamC hi hj hA ?_ ?_ fun h' tk' t X' => ⟨_, _, rfl, fun tk3 => hQ h' tk3 fun b o q => X' b o (X b o q)⟩
  · show A.depth + 1 ≤ 600; omega
  · show A.units + 3 ≤ 5000; omega
end Mine
end
section -- MKeyB
set_option maxRecDepth 100000
set_option linter.constructorNameAsVariable false
namespace Mine
theorem key_5_t (tk0 a n : Nat) (w : World) (h : Heap) (d : Drawn) (tk : Nat) (os : OsState) : KeyRan 151 tk0 a n (pin1 w true) h d tk os := ⟨by kernel_rfl⟩
theorem key_5_f (tk0 a n : Nat) (w : World) (h : Heap) (d : Drawn) (tk : Nat) (os : OsState) : KeyRan 151 tk0 a n (pin1 w false) h d tk os := ⟨by kernel_rfl⟩
theorem key_6_t (tk0 a n : Nat) (w : World) (h : Heap) (d : Drawn) (tk : Nat) (os : OsState) : KeyRan 163 tk0 a n (pin1 w true) h d tk os := ⟨by kernel_rfl⟩
theorem key_6_f (tk0 a n : Nat) (w : World) (h : Heap) (d : Drawn) (tk : Nat) (os : OsState) : KeyRan 163 tk0 a n (pin1 w false) h d tk os := ⟨by kernel_rfl⟩
theorem key_7_t (tk0 a n : Nat) (w : World) (h : Heap) (d : Drawn) (tk : Nat) (os : OsState) : KeyRan 175 tk0 a n (pin1 w true) h d tk os := ⟨by kernel_rfl⟩
theorem key_7_f (tk0 a n : Nat) (w : World) (h : Heap) (d : Drawn) (tk : Nat) (os : OsState) : KeyRan 175 tk0 a n (pin1 w false) h d tk os := ⟨by kernel_rfl⟩
theorem key_8_t (tk0 a n : Nat) (w : World) (h : Heap) (d : Drawn) (tk : Nat) (os : OsState) : KeyRan 187 tk0 a n (pin1 w true) h d tk os := ⟨by kernel_rfl⟩
theorem key_8_f (tk0 a n : Nat) (w : World) (h : Heap) (d : Drawn) (tk : Nat) (os : OsState) : KeyRan 187 tk0 a n (pin1 w false) h d tk os := ⟨by kernel_rfl⟩
theorem key_9_t (tk0 a n : Nat) (w : World) (h : Heap) (d : Drawn) (tk : Nat) (os : OsState) : KeyRan 199 tk0 a n (pin1 w true) h d tk os := ⟨by kernel_rfl⟩
theorem key_9_f (tk0 a n : Nat) (w : World) (h : Heap) (d : Drawn) (tk : Nat) (os : OsState) : KeyRan 199 tk0 a n (pin1 w false) h d tk os := ⟨by kernel_rfl⟩
theorem key_10_t (tk0 a n : Nat) (w : World) (h : Heap) (d : Drawn) (tk : Nat) (os : OsState) : KeyRan 211 tk0 a n (pin1 w true) h d tk os := ⟨by kernel_rfl⟩
theorem key_10_f (tk0 a n : Nat) (w : World) (h : Heap) (d : Drawn) (tk : Nat) (os : OsState) : KeyRan 211 tk0 a n (pin1 w false) h d tk os := ⟨by kernel_rfl⟩
theorem key_11_t (tk0 a n : Nat) (w : World) (h : Heap) (d : Drawn) (tk : Nat) (os : OsState) : KeyRan 223 tk0 a n (pin1 w true) h d tk os := ⟨by kernel_rfl⟩
theorem key_11_f (tk0 a n : Nat) (w : World) (h : Heap) (d : Drawn) (tk : Nat) (os : OsState) : KeyRan 223 tk0 a n (pin1 w false) h d tk os := ⟨by kernel_rfl⟩
theorem key_12_t (tk0 a n : Nat) (w : World) (h : Heap) (d : Drawn) (tk : Nat) (os : OsState) : KeyRan 235 tk0 a n (pin1 w true) h d tk os := ⟨by kernel_rfl⟩
theorem key_12_f (tk0 a n : Nat) (w : World) (h : Heap) (d : Drawn) (tk : Nat) (os : OsState) : KeyRan 235 tk0 a n (pin1 w false) h d tk os := ⟨by kernel_rfl⟩
end Mine
end
section -- MSortB
set_option linter.unusedVariables false
set_option maxRecDepth 100000
set_option maxHeartbeats 4000000
namespace Mine
/-- what is no list is kept -/
noncomputable abbrev NLk (h h' : Heap) : Prop := ∀ b o, h.get? b = some o → o.cls ≠ .type "list" → h'.get? b = some o
theorem ext_same {h₀ h h' : Heap} {a : Addr} (x : Ext h₀ h) (hs : Heap.SameBut a h h') (h0 : h₀.get? a = none) : Ext h₀ h' := fun b o e => (hs.2 b (fun q => by rw [q, h0] at e; cases e)).trans (x b o e)
theorem nl_same {h h' : Heap} {a : Addr} {o : Obj} (hs : Heap.SameBut a h h') (ha : h.get? a = some o) (hc : o.cls = .type "list") : NLk h h' := fun b o' e hn => (hs.2 b (fun q => by rw [q, ha] at e; cases e; exact hn hc)).trans e
section
variable {prog : Program} {w : World} {A : Around} {E : Value → Shared → Prop} {s : Shared} {h₀ : Heap} {a kS : Addr} {vs : List Value} {P : PySem.Fin → Shared → Prop} {K : Nat → Value → Heap → Prop} {lt : Nat → Nat → Bool} {T : Value} {f : Value}
theorem own_ne {h : Heap} {k : Addr} (h0 : h₀.get? k = none) {b : Addr} {o : Obj} (e : h₀.get? b = some o) : b ≠ k := fun q => by rw [q, h0] at e; cases e
theorem so_tail {e e1 : Nat} {keys : Array Value} {st : SortSt} {p : Array Nat} (X : Ext h₀ s.heap) (gk : s.heap.get? kS = some (seqObj "list" keys e)) (ga : s.heap.get? a = some (seqObj "list" #[] e1)) (hk0 : h₀.get? kS = none) (ha0 : h₀.get? a = none) (hka : kS ≠ a)
    (h64 : vs.length < 64) (hsz : keys.size = vs.length) (hps : p.size = vs.length) (harr : arrOf st = p.map (kas_item (keys.zip vs.toArray))) (hfl : failedOf st = none)
    (h : ∀ h' tk out c, Ext h₀ h' → h'.get? a = some (seqObj "list" out c) → out = p.map (fun i => (kas_item (keys.zip vs.toArray) i).2) → P (.done (.ret .none)) { s with heap := h', toks := tk }) :
    wpAny (model prog w) A (ksk_tail a false e1 (.ref kS) st) P E s := by
  have hout : ((arrOf st).map (·.2)).size = vs.length := by rw [harr]; simp [hps]
  have s1 := Heap.SameBut.update s.heap kS (Obj.mapSeq fun _ => (#[] : Array Value))
  have ga1 : (s.heap.update kS (Obj.mapSeq fun _ => (#[] : Array Value))).get? a = some (seqObj "list" #[] e1) := (s1.2 a hka.symm).trans ga
  have s2 := Heap.SameBut.update (s.heap.update kS (Obj.mapSeq fun _ => (#[] : Array Value))) a (Obj.mapSeq fun _ => (arrOf st).map (·.2))
  obtain ⟨c2, hc2⟩ : ∃ c2, ((s.heap.update kS (Obj.mapSeq fun _ => (#[] : Array Value))).update a (Obj.mapSeq fun _ => (arrOf st).map (·.2))).get? a = some (seqObj "list" ((arrOf st).map (·.2)) c2) :=
    ⟨_, get?_update_seq ga1 fun _ => (arrOf st).map (·.2)⟩
  unfold ksk_tail
  try dsimp only
  refine wpAny_bind (listUpdate_at gk rfl ?_ (by rw [hsz, sizeLine_eq]; omega) (Nat.zero_le _))
  refine wpAny_bind (wpAny_letGo ?_)
  refine wpAny_bind (seqEpoch_at ga1 rfl ?_)
  simp only [Bool.false_eq_true, if_false]
  refine wpAny_bind (listUpdate_at ga1 rfl ?_ (Nat.zero_le _) (Nat.le_trans (Nat.le_of_eq hout) (by rw [sizeLine_eq]; omega)))
  rw [hfl]
  simp only [bne_self_eq_false, Bool.false_eq_true, if_false]
  refine wpAny_pure (h _ _ _ c2 (ext_same (ext_same X s1 hk0) s2 ha0) hc2 ?_)
  rw [harr, Array.map_map]
  rfl
theorem so_end {e e1 : Nat} {keys : Array Value} (X : Ext h₀ s.heap) (gk : s.heap.get? kS = some (seqObj "list" keys e)) (ga : s.heap.get? a = some (seqObj "list" #[] e1)) (hk0 : h₀.get? kS = none) (ha0 : h₀.get? a = none) (hka : kS ≠ a)
    (h2 : 2 ≤ vs.length) (h64 : vs.length < 64) (hsz : keys.size = vs.length) (hK : ∀ i k, keys[i]? = some k → K i k s.heap)
    (Kmono : ∀ i k h h', K i k h → NLk h h' → K i k h')
    (hT1 : (T != Value.type "tuple") = true) (hT2 : (T == T) = true) (types : ∀ i k h, K i k h → Ext h₀ h → Looks (model prog w) h (typeOf k) T)
    (cmp : ∀ i j ki kj h tk C, i < vs.length → j < vs.length → K i ki h → K j kj h → Ext h₀ h → (∀ h' tk', Ext h h' → C (lt i j) { s with heap := h', toks := tk' }) → wpAny (model prog w) A (keyLt' oneType' ki kj) C (fun _ _ => False) { s with heap := h, toks := tk })
    (h : ∀ h' tk out c, Ext h₀ h' → h'.get? a = some (seqObj "list" out c) → out = (sortP lt vs.length).map (fun i => vs.getD i .none) → P (.done (.ret .none)) { s with heap := h', toks := tk }) :
    wpAny (model prog w) A (ksk_end a false vs.toArray e1 (.ref kS) keys) P E s := by
  have hzs : (keys.zip vs.toArray).size = vs.length := by rw [Array.size_zip, hsz, List.size_toArray, Nat.min_self]
  have hkt : keys.toList.length = vs.length := by rw [Array.length_toList]; exact hsz
  have kitem : ∀ i, i < vs.length → ∃ k, keys[i]? = some k ∧ kas_item (keys.zip vs.toArray) i = (k, vs.getD i .none) := by
    intro i hi
    have hi' : i < keys.size := by omega
    refine ⟨keys[i], by simp [hi'], ?_⟩
    have hz : i < (keys.zip vs.toArray).size := by omega
    unfold kas_item
    have e1 : (keys.zip vs.toArray).getD i (Value.none, Value.none) = (keys.zip vs.toArray)[i] := by rw [Array.getD_eq_getD_getElem?, Array.getElem?_eq_getElem hz]; rfl
    rw [e1, Array.getElem_zip]
    simp [hi]
  unfold ksk_end
  try dsimp only
  simp only [Bool.false_eq_true, if_false]
  rw [if_neg (by rw [List.size_toArray]; omega), if_neg (by rw [List.size_toArray]; omega)]
  have ek : keys = keys.toList.toArray := by simp
  refine wpAny_bind ?_
  rw [ek]
  refine kas_kind (T := T) (by rw [hkt]; exact h2) (fun v hv => ?_) hT1 hT2 ?_
  · obtain ⟨i, hi, rfl⟩ := List.mem_iff_getElem.mp hv
    exact types i _ _ (hK i _ (by first | (simp; done) | (simp at hi ⊢; done) | (simp at hi ⊢; exact hi))) X
  rw [← ek]
  refine wpAny_bind ?_
  have st0 : SortSt.mk' oneType' (keys.zip vs.toArray) #[] 7 none = kas_st oneType' (keys.zip vs.toArray) (List.toArray (List.range vs.length)) := by
    unfold kas_st
    have := kas_range (keys.zip vs.toArray)
    rw [hzs] at this
    rw [this]
  rw [st0]
  have ask : (kas_sort vs.length).kasWp (kas_cmp prog w A oneType' (keys.zip vs.toArray)) (fun p s' => p = evT lt (kas_sort vs.length) ∧ ∃ h' tk', s' = { s with heap := h', toks := tk' } ∧ Ext s.heap h') s := by
    refine kasWp_all (I := fun s' => ∃ h' tk', s' = { s with heap := h', toks := tk' } ∧ Ext s.heap h') (lt := lt) ?_ (all_sort (by omega)) ⟨s.heap, s.toks, rfl, fun _ _ e => e⟩
    rintro i j C _ hi hj ⟨h', tk', rfl, X'⟩ hC
    obtain ⟨ki, gi, ei⟩ := kitem i hi
    obtain ⟨kj, gj, ej⟩ := kitem j hj
    unfold kas_cmp
    rw [ei, ej]
    exact cmp i j ki kj h' tk' C hi hj (Kmono _ _ _ _ (hK i ki gi) fun b o e _ => X' b o e) (Kmono _ _ _ _ (hK j kj gj) fun b o e _ => X' b o e) (fun b o e => X' b o (X b o e)) fun h'' tk'' X'' => hC _ ⟨h'', tk'', rfl, fun b o e => X'' b o (X' b o e)⟩
  refine wpAny_mono (kas_runs (Q := fun _ st' s' => (∃ h' tk', s' = { s with heap := h', toks := tk' } ∧ Ext s.heap h') ∧ failedOf st' = none ∧ arrOf st' = (sortP lt vs.length).map (kas_item (keys.zip vs.toArray))) h2 h64 (fun p' st' s' hp ha hf hg => ?_) ask) (fun r s' hr => ?_) fun _ _ e => e
  · exact ⟨hg.2, hf, by rw [ha, hg.1]; rfl⟩
  · obtain ⟨⟨⟩, st'⟩ := r
    obtain ⟨⟨h', tk', rfl, X'⟩, hf, harr⟩ := hr
    have bd := sortP_bd (lt := lt) (n := vs.length) (by omega)
    refine so_tail (s := { s with heap := h', toks := tk' }) (fun b o e => X' b o (X b o e)) (X' _ _ gk) (X' _ _ ga) hk0 ha0 hka h64 hsz bd.sz harr hf fun h3 tk3 out c X3 g3 e3 => h h3 tk3 out c X3 g3 ?_
    rw [e3]
    apply Array.ext_getElem?
    intro i
    rw [Array.getElem?_map, Array.getElem?_map]
    cases q : (sortP lt vs.length)[i]? with
    | none => rfl
    | some x =>
      have hx : x < vs.length := by
        have := bd.lt i
        have e4 : (sortP lt vs.length).getD i 0 = x := by simp [Array.getD_eq_getD_getElem?, q]
        omega
      obtain ⟨k, _, ei⟩ := kitem x hx
      simp only [Option.map_some, ei]
end
end Mine
end
section -- MSortC
set_option linter.unusedVariables false
set_option maxRecDepth 100000
set_option maxHeartbeats 4000000
namespace Mine
section
variable {prog : Program} {w : World} {A : Around} {E : Value → Shared → Prop} {s : Shared} {h₀ : Heap} {a kS : Addr} {vs : List Value} {P : PySem.Fin → Shared → Prop} {K : Nat → Value → Heap → Prop} {lt : Nat → Nat → Bool} {T : Value} {f : Value}
/-- what a sort by a key asks of the key, of its kind, of the comparison -/
structure SortKey (prog : Program) (w : World) (A : Around) (s : Shared) (h₀ : Heap) (vs : List Value) (f : Value) (T : Value) (lt : Nat → Nat → Bool) (K : Nat → Value → Heap → Prop) : Prop where
  mono : ∀ i k h h', K i k h → NLk h h' → K i k h'
  t1 : (T != Value.type "tuple") = true
  t2 : (T == T) = true
  types : ∀ i k h, K i k h → Ext h₀ h → Looks (model prog w) h (typeOf k) T
  cmp : ∀ i j ki kj h tk C, i < vs.length → j < vs.length → K i ki h → K j kj h → Ext h₀ h → (∀ h' tk', Ext h h' → C (lt i j) { s with heap := h', toks := tk' }) → wpAny (model prog w) A (keyLt' oneType' ki kj) C (fun _ _ => False) { s with heap := h, toks := tk }
  turn : ∀ i v h tk, vs[i]? = some v → Ext h₀ h → wpAny (model prog w) A (call f [v]) (fun k s' => ∃ h' tk', s' = { s with heap := h', toks := tk' } ∧ Ext h h' ∧ K i k h') (fun _ _ => False) { s with heap := h, toks := tk }
theorem so_rest {e1 : Nat} (Z : SortKey prog w A s h₀ vs f T lt K) (X : Ext h₀ s.heap) (gk : s.heap.get? kS = some (seqObj "list" #[] 0)) (ga : s.heap.get? a = some (seqObj "list" #[] e1)) (hk0 : h₀.get? kS = none) (ha0 : h₀.get? a = none) (hka : kS ≠ a)
    (h2 : 2 ≤ vs.length) (h64 : vs.length < 64)
    (h : ∀ h' tk out c, Ext h₀ h' → h'.get? a = some (seqObj "list" out c) → out = (sortP lt vs.length).map (fun i => vs.getD i .none) → P (.done (.ret .none)) { s with heap := h', toks := tk }) :
    wpAny (model prog w) A (ksk_rest a f false vs.toArray e1 (.ref kS)) P E s := by
  unfold ksk_rest
  refine wpAny_bind (wpAny_rule ?_)
  first
    | rw [List.forIn_toArray]
    | (rw [← Array.forIn_toList]; simp only [List.toList_toArray])
    | rw [← Array.forIn_toList]
  refine wpAny_bind (ksk_fold (fun i s' => ∃ h' tk kA e, s' = { s with heap := h', toks := tk } ∧ Ext h₀ h' ∧ h'.get? kS = some (seqObj "list" kA e) ∧ h'.get? a = some (seqObj "list" #[] e1) ∧ kA.size = i ∧ ∀ j k, kA[j]? = some k → K j k h') vs 0 s
    ⟨s.heap, s.toks, #[], 0, rfl, X, gk, ga, rfl, fun j k e => by simp at e⟩ ?step ?done)
  case step =>
    rintro j x s' hx ⟨h', tk, kA, e, rfl, X', gk', ga', hsz, hK⟩
    simp only [Nat.zero_add] at hsz ⊢
    have hj : j < vs.length := (List.getElem?_eq_some_iff.mp hx).1
    refine wpAny_bind (wpAny_attempt (wpAny_mono (Z.turn j x h' tk hx X') (fun v s'' he => ?_) fun _ _ hF => hF.elim))
    obtain ⟨g, tk2, rfl, X2, hv⟩ := he
    try dsimp only
    have gk2 := X2 _ _ gk'
    have ga2 := X2 _ _ ga'
    have s1 := Heap.SameBut.update g kS (Obj.mapSeq (·.push v))
    obtain ⟨c2, hc2⟩ : ∃ c2, (g.update kS (Obj.mapSeq (·.push v))).get? kS = some (seqObj "list" (kA.push v) c2) := ⟨_, get?_update_seq gk2 (·.push v)⟩
    refine wpAny_bind (listUpdate_at gk2 rfl ?_ (by rw [sizeLine_eq]; omega) (Nat.le_trans (Nat.le_of_eq (Array.size_push ..)) (by rw [sizeLine_eq]; omega)))
    have nl := nl_same s1 gk2 rfl
    refine wpAny_pure ⟨rfl, _, _, kA.push v, c2, rfl, ext_same (fun b o e => X2 b o (X' b o e)) s1 hk0, hc2, (s1.2 a hka.symm).trans ga2, by rw [Array.size_push, hsz], fun i k hi => ?_⟩
    rw [Array.getElem?_push] at hi
    split at hi
    · rename_i hij
      cases hi
      rw [hij, hsz]
      exact Z.mono _ _ _ _ hv nl
    · exact Z.mono _ _ _ _ (Z.mono _ _ _ _ (hK i k hi) fun b o e _ => X2 b o e) nl
  case done =>
    rintro s' ⟨h', tk, kA, e, rfl, X', gk', ga', hsz, hK⟩
    try dsimp only
    refine wpAny_bind (listItems_at gk' rfl ?_)
    exact so_end (s := { s with heap := h', toks := tk }) (T := T) (lt := lt) (K := K) X' gk' ga' hk0 ha0 hka h2 h64 (by omega) hK Z.mono Z.t1 Z.t2 Z.types Z.cmp fun h3 tk3 out c X3 g3 e3 => h h3 tk3 out c X3 g3 e3
theorem so_sort {n : Nat} (Z : SortKey prog w A s h₀ vs f T lt K) (X : Ext h₀ s.heap) (ho : s.heap.get? a = some (seqObj "list" vs.toArray n)) (ha0 : h₀.get? a = none) (hk0 : ∀ k, s.heap.objs.size ≤ k → h₀.get? k = none)
    (h2 : 2 ≤ vs.length) (h64 : vs.length < 64)
    (h : ∀ h' tk out c, Ext h₀ h' → h'.get? a = some (seqObj "list" out c) → out = (sortP lt vs.length).map (fun i => vs.getD i .none) → P (.done (.ret .none)) { s with heap := h', toks := tk }) :
    wpAny (model prog w) A (ksk_tree a f false) P E s := by
  have ha : a < s.heap.objs.size := Heap.lt_size ho
  have s1 := Heap.SameBut.update s.heap a (Obj.mapSeq fun _ => (#[] : Array Value))
  obtain ⟨e1, ho1⟩ : ∃ e1, (s.heap.update a (Obj.mapSeq fun _ => (#[] : Array Value))).get? a = some (seqObj "list" #[] e1) := ⟨_, get?_update_seq ho fun _ => #[]⟩
  have X1 := ext_same X s1 ha0
  have hkS : ((s.heap.update a (Obj.mapSeq fun _ => (#[] : Array Value))).push (seqObj "tuple" vs.toArray 0)).objs.size = s.heap.objs.size + 1 := by rw [size_push', Heap.size_update]
  unfold ksk_tree
  refine wpAny_bind (listItems_at ho rfl ?_)
  refine wpAny_bind (listUpdate_at ho rfl ?_ (by rw [List.size_toArray, sizeLine_eq]; omega) (Nat.zero_le _))
  refine wpAny_bind (seqEpoch_at ho1 rfl ?_)
  refine wpAny_bind (wpAny_newTuple ?_ (by show vs.length ≤ _; rw [sizeLine_eq]; omega))
  refine wpAny_bind (wpAny_newList ?_ (Nat.zero_le _))
  refine wpAny_holding ?_
  refine so_rest (s := { s with heap := ((s.heap.update a (Obj.mapSeq fun _ => (#[] : Array Value))).push (seqObj "tuple" vs.toArray 0)).push (seqObj "list" #[] 0) }) (kS := ((s.heap.update a (Obj.mapSeq fun _ => (#[] : Array Value))).push (seqObj "tuple" vs.toArray 0)).objs.size) (lt := lt) (K := K) (T := T) (h₀ := h₀)
    ⟨Z.mono, Z.t1, Z.t2, Z.types, Z.cmp, Z.turn⟩ (fun b o e => Heap.get?_push_of_some _ (Heap.get?_push_of_some _ (X1 b o e))) (Heap.get?_push_size _ rfl) (Heap.get?_push_of_some _ (Heap.get?_push_of_some _ ho1)) (hk0 _ (by rw [hkS]; omega)) ha0 (by rw [hkS]; exact Nat.ne_of_gt (Nat.lt_succ_of_lt ha)) h2 h64 h
theorem so_sorted {l : Addr} {kw : List (Str × Value)} {Q : Value → Shared → Prop} (Z : SortKey prog w A.in1.in1 s s.heap vs f T lt K) (hl : s.heap.IsList l vs.toArray) (h2 : 2 ≤ vs.length) (h64 : vs.length < 64)
    (ha1 : argsOk "sorted" ⟨[.ref l], kw⟩) (ha2 : ∀ x, argsOk "list.sort" ⟨[.ref x], kw⟩) (ht : ∀ x, Builtin.«list.sort» ⟨[.ref x], kw⟩ = ksk_tree x f false)
    (h : ∀ D h' tk c, Ext s.heap h' → h'.get? D = some (seqObj "list" ((sortP lt vs.length).map (fun i => vs.getD i .none)) c) → s.heap.get? D = none → Q (.ref D) { s with heap := h', toks := tk }) :
    wpAny (model prog w) A (call (.builtin "sorted") [.ref l] kw) Q E s := by
  refine call_function_entry_kw kind_sorted plain_sorted entry_sorted ha1 ?_
  unfold Builtin.«sorted»
  refine wpAny_bind (m := checkCount "sorted" 1 1 _) (wpAny_pure ?_)
  refine wpAny_bind (collect_list hl ?_ (by rw [sizeLine_eq]; omega))
  refine wpAny_bind (wpAny_newList ?_ (by rw [sizeLine_eq]; omega))
  have hsz : ((s.heap.push (seqObj "list" #[] 0)).update s.heap.objs.size (Obj.mapSeq (· ++ vs.toArray))).objs.size = s.heap.objs.size + 1 := by
    rw [Heap.size_update, size_push']
  have hoL : (((s.heap.push (seqObj "list" #[] 0)).update s.heap.objs.size (Obj.mapSeq (· ++ vs.toArray))).push (seqObj "list" vs.toArray 0)).get? (s.heap.objs.size + 1) = some (seqObj "list" vs.toArray 0) := by
    rw [← hsz]; exact Heap.get?_push_size _ rfl
  have keep : Ext s.heap (((s.heap.push (seqObj "list" #[] 0)).update s.heap.objs.size (Obj.mapSeq (· ++ vs.toArray))).push (seqObj "list" vs.toArray 0)) := fun b o q => by
    have hlt : b < s.heap.objs.size := Heap.lt_size q
    rw [Heap.get?_push_ne _ _ _ (by rw [hsz]; exact Nat.ne_of_lt (Nat.lt_succ_of_lt hlt)), Heap.get?_update_ne _ _ _ _ (Nat.ne_of_lt hlt), Heap.get?_push_ne _ _ _ (Nat.ne_of_lt hlt)]
    exact q
  have hnone : ∀ k, s.heap.objs.size ≤ k → s.heap.get? k = none := fun k hk => Heap.get?_none_of_le hk
  show wpAny _ _ _ _ _ { s with heap := ((s.heap.push (seqObj "list" #[] 0)).update s.heap.objs.size (Obj.mapSeq (· ++ vs.toArray))).push (seqObj "list" vs.toArray 0) }
  rw [hsz]
  refine wpAny_bind (wpAny_holding (wpAny_call_entry_kw slot_list_sort ⟨_, hoL, rfl⟩ entry_list_sort ?body (ha2 _)))
  case body =>
    have ht' := ht (s.heap.objs.size + 1)
    show wpAny (model prog w) A.in1.in1 (Builtin.«list.sort» ⟨[.ref (s.heap.objs.size + 1)], kw⟩) _ _ _
    rw [ht']
    refine so_sort (s := { s with heap := ((s.heap.push (seqObj "list" #[] 0)).update s.heap.objs.size (Obj.mapSeq (· ++ vs.toArray))).push (seqObj "list" vs.toArray 0) }) (lt := lt) (K := K) (T := T) (h₀ := s.heap)
      ⟨Z.mono, Z.t1, Z.t2, Z.types, Z.cmp, Z.turn⟩ keep hoL (hnone _ (by omega)) (fun k hk => hnone k (by
        have : s.heap.objs.size + 1 + 1 ≤ k := by
          have e : (((s.heap.push (seqObj "list" #[] 0)).update s.heap.objs.size (Obj.mapSeq (· ++ vs.toArray))).push (seqObj "list" vs.toArray 0)).objs.size = s.heap.objs.size + 1 + 1 := by rw [size_push', hsz]
          rw [← e]; exact hk
        omega)) h2 h64 fun h' tk out c X' g' e' => ⟨_, rfl, ?_⟩
    subst e'
    exact wpAny_pure ⟨_, rfl, h _ h' tk c X' g' (hnone _ (by omega))⟩
end
end Mine
end
section -- MSk
set_option maxRecDepth 100000
set_option linter.constructorNameAsVariable false
namespace Mine
theorem key_any (n : Nat) (h5 : 5 ≤ n) (h12 : n ≤ 12) (b : Bool) (tk0 a m : Nat) (w : World) (h : Heap) (d : Drawn) (tk : Nat) (os : OsState) : KeyRan (91 + 12 * n) tk0 a m (pin1 w b) h d tk os := by
  have : n = 5 ∨ n = 6 ∨ n = 7 ∨ n = 8 ∨ n = 9 ∨ n = 10 ∨ n = 11 ∨ n = 12 := by omega
  rcases this with rfl | rfl | rfl | rfl | rfl | rfl | rfl | rfl <;> cases b
  · exact key_5_f tk0 a m w h d tk os
  · exact key_5_t tk0 a m w h d tk os
  · exact key_6_f tk0 a m w h d tk os
  · exact key_6_t tk0 a m w h d tk os
  · exact key_7_f tk0 a m w h d tk os
  · exact key_7_t tk0 a m w h d tk os
  · exact key_8_f tk0 a m w h d tk os
  · exact key_8_t tk0 a m w h d tk os
  · exact key_9_f tk0 a m w h d tk os
  · exact key_9_t tk0 a m w h d tk os
  · exact key_10_f tk0 a m w h d tk os
  · exact key_10_t tk0 a m w h d tk os
  · exact key_11_f tk0 a m w h d tk os
  · exact key_11_t tk0 a m w h d tk os
  · exact key_12_f tk0 a m w h d tk os
  · exact key_12_t tk0 a m w h d tk os
theorem ltf_any (n : Nat) (h5 : 5 ≤ n) (h12 : n ≤ 12) (P : Params) (tk0 : Nat) : LtFound P tk0 (91 + 12 * n) := by
  have : n = 5 ∨ n = 6 ∨ n = 7 ∨ n = 8 ∨ n = 9 ∨ n = 10 ∨ n = 11 ∨ n = 12 := by omega
  rcases this with rfl | rfl | rfl | rfl | rfl | rfl | rfl | rfl
  · exact ltf_5 P tk0
  · exact ltf_6 P tk0
  · exact ltf_7 P tk0
  · exact ltf_8 P tk0
  · exact ltf_9 P tk0
  · exact ltf_10 P tk0
  · exact ltf_11 P tk0
  · exact ltf_12 P tk0
noncomputable abbrev dct0 : Obj := ⟨.type "dict", none, .dict #[] 0, #[]⟩
/-- a key of the first sort -/
noncomputable def K1 (N i : Nat) (k : Value) (h : Heap) : Prop := ∃ x dx, k = .ref x ∧ h.get? x = some (inst N dx (100 + 12 * i)) ∧ h.get? dx = some dct0
theorem ltq (P : Nat → List Int) (U : List Int) (i j : Nat) : decide (turnF (P i) (P j) U < 0) = decide (turnF (P i) (P j) U < 0) := rfl
theorem kc_in {P : Params} {tk0 N : Nat} {h : Heap} (e1 : h.get? (N + 68) = some (oCls tk0 N)) (e2 : h.get? (N + 67) = some (oNs P tk0 N)) (e3 : h.get? (N + 32) = some (oLt P N)) : (KC P tk0 N).In h := by
  intro a o e
  simp only [List.lookup_cons, List.lookup_nil] at e
  split at e
  · rename_i hb; cases e; rw [eq_of_beq hb]; exact e1
  · split at e
    · rename_i hb; cases e; rw [eq_of_beq hb]; exact e2
    · split at e
      · rename_i hb; cases e; rw [eq_of_beq hb]; exact e3
      · cases e
theorem refs_get {n i : Nat} {v : Value} (e : (refs n)[i]? = some v) : i < n ∧ v = .ref (100 + 12 * i) := by
  unfold refs at e
  rw [List.getElem?_map] at e
  by_cases hi : i < n
  · rw [List.getElem?_range hi] at e
    cases e
    exact ⟨hi, rfl⟩
  · rw [List.getElem?_eq_none (by rw [List.length_range]; omega)] at e
    cases e
theorem refs_len (n : Nat) : (refs n).length = n := by unfold refs; simp
theorem sk1 {w : World} {b : Bool} {s : Shared} {A : Around} {n ax tk0 : Nat} {P : Nat → List Int} {U : List Int} {tx : Nat → Str} (B : Pb (pin1 w b) s.heap n ax P U tx) (L : Pl n ax P U tx) (C : CkAt (pin1 w b) s.heap tk0 (91 + 12 * n))
    (hA : A.handled = none) (hd : A.depth ≤ 450) (hu : A.units ≤ 3500) :
    SortKey Prg (pin1 w b) A s s.heap (refs n) (.ref (91 + 12 * n + 68)) (.ref (91 + 12 * n + 68)) (fun i j => decide (turnF (P i) (P j) U < 0)) (K1 (91 + 12 * n)) where
  mono := by
    rintro i k h h' ⟨x, dx, rfl, hx, hdx⟩ nl
    exact ⟨x, dx, rfl, nl _ _ hx (by intro q; cases q), nl _ _ hdx (by intro q; exact absurd q (by decide))⟩
  t1 := rfl
  t2 := by simp
  types := by
    rintro i k h ⟨x, dx, rfl, hx, hdx⟩ _
    exact InstAt.type (od := some dct0) ⟨hx, rfl, rfl, hdx⟩
  cmp := by
    rintro i j ki kj h tk Q hi hj ⟨x, dx, rfl, hx, hdx⟩ ⟨y, dy, rfl, hy, hdy⟩ X hQ
    rw [refs_len] at hi hj
    have C' := C.keeps X
    have Z := ltf_any n L.n5 L.n12 (pin1 w b).params tk0
    refine lt_inst (s := { s with heap := h, toks := tk }) (by show A.units < 9900; omega) (kc_in C'.cls C'.ns C'.lt) (InstAt.mk (od := some dct0) hx rfl rfl hdx) Z.f Z.i ?_
    exact ltm_at (s := { s with heap := h, toks := tk }) (B.keeps X) L C' hx hy hi hj hA (by omega) (by omega) fun h' tk' X' => hQ h' tk' X'
  turn := by
    intro i v h tk hv X
    obtain ⟨hi, rfl⟩ := refs_get hv
    have hr : (1000 : Nat) = recursionLimit := rfl
    refine wpAny_call ?_
    exact (key_any n L.n5 L.n12 b tk0 (100 + 12 * i) h.objs.size w h s.drawn tk s.os).code (g := s.gens) rfl (C.keeps X).kt (B.keeps X).bs.kn.lim hA (by omega) fun h' tk' X' e0 e1 => ⟨h', tk', rfl, X', _, _, rfl, e1, e0⟩
end Mine
end
section -- MSk2
set_option maxRecDepth 100000
set_option linter.constructorNameAsVariable false
namespace Mine
noncomputable def lamOf2 : Option Stmt → Expr
  | some (.If (.Compare _ _ [.Call _ _ [⟨_, e, _⟩] _] _) _ _ _) => e
  | _ => .Constant .none 0 ⟨0, 0, 0, 0⟩
noncomputable abbrev lamE2 (P : Params) : Expr := lamOf2 ((bodyAt P 64)[6]?)
noncomputable abbrev lamQ2 (P : Params) : Arguments × Expr × Scope := lamP (lamE2 P)
structure LaP2 where
  id : Str
  p : Pos
  a : Expr
  b : Expr
  q : Pos
noncomputable def laPt2 : Expr → LaP2
  | .Call (.Name id p) [a, b] [] q => ⟨id, p, a, b, q⟩
  | _ => ⟨Str.ofString "", ⟨0, 0, 0, 0⟩, (.Constant .none 0 ⟨0, 0, 0, 0⟩), (.Constant .none 0 ⟨0, 0, 0, 0⟩), ⟨0, 0, 0, 0⟩⟩
noncomputable abbrev lap2 (P : Params) : LaP2 := laPt2 (lamQ2 P).2.1
theorem la2_bd (P : Params) : (lamQ2 P).2.1 = .Call (.Name (lap2 P).id (lap2 P).p) [(lap2 P).a, (lap2 P).b] [] (lap2 P).q := by kernel_rfl
noncomputable abbrev cl2 : List (Str × Addr) := [(Str.ofString "turned", 71)]
noncomputable abbrev fdLam2 (P : Params) (qual : Str) (pm ctv : Value) (c' : Addr) : FuncData := kla_fn "<lambda>" qual (lamQ2 P).1 (lamQ2 P).2.1 (lamQ2 P).2.2 cl2 pm (.ref c') ctv
theorem la2_ran (qual : Str) (pm ctv : Value) (c' f a n : Nat) (w : World) (h : Heap) (d : Drawn) (tk : Nat) (os : OsState) :
    EeRan KT2 w h n d tk os [(71, celO (.ref 76))] (fdLam2 w.params qual pm ctv c') f [.ref a] [.Name (lap2 w.params).id (lap2 w.params).p, (lap2 w.params).a, (lap2 w.params).b] [1, 1, 0, 1, 2] [.ref 54, .ref a, .ref 76] := ⟨by kernel_rfl⟩
theorem lam2_co (P : Params) (qual : Str) (pm ctv : Value) (c' : Nat) : (fdLam2 P qual pm ctv c').scope.isCoroutine = false := by kernel_rfl
theorem lam2_gen (P : Params) (qual : Str) (pm ctv : Value) (c' : Nat) : (fdLam2 P qual pm ctv c').scope.isGenerator = false := by kernel_rfl
theorem lam2_se (P : Params) (env : Env) : backTo (lap2 P).q (starEach [(lap2 P).a, (lap2 P).b] env) = [(lap2 P).a, (lap2 P).b].map fun e => (false, eval e env) := by kernel_rfl
theorem lam2_body (P : Params) (qual : Str) (pm ctv : Value) (c' : Nat) : (fdLam2 P qual pm ctv c').body = .expr (.Call (.Name (lap2 P).id (lap2 P).p) [(lap2 P).a, (lap2 P).b] [] (lap2 P).q) := congrArg FuncBody.expr (la2_bd P)
theorem fn54 (P : Params) : FnAt P 54 := ⟨by kernel_rfl, by kernel_rfl⟩
theorem lam2_at {w : World} {s : Shared} {A : Around} {Q E : Value → Shared → Prop} {n ax i : Nat} {P : Nat → List Int} {U : List Int} {tx : Nat → Str} {qual : Str} {pm ctv : Value} {c' f : Addr} {o : Obj} (B : Pb w s.heap n ax P U tx) (hl : s.heap.get? f = some o) (ho : o.data = .func (fdLam2 w.params qual pm ctv c')) (hc : s.heap.CodeRec (.ref c') qual)
    (hi : i < n) (hA : A.handled = none) (hd : A.depth ≤ 600)
    (hQ : ∀ h' tk t, Ext s.heap h' → Q (.str (tx i) t) { s with heap := h', toks := tk }) :
    wpAny (model Prg w) A (call (.ref f) [.ref (100 + 12 * i)]) Q E s := by
  obtain ⟨h, g, d, tk, os⟩ := s
  have hr : (1000 : Nat) = recursionLimit := rfl
  have F := fn54 w.params
  refine ee_expr (la2_ran qual pm ctv c' f (100 + 12 * i) h.objs.size w h d tk os) rfl B.bs.kn.kt B.bs.kn.lim (old1 B.c71) hl ho (lam2_co _ _ _ _ _) (lam2_gen _ _ _ _ _) (lam2_body _ _ _ _ _) hc hA (by omega) (lam2_se _) (kh_at B.bs.kn.kt F.obj) F.data fun env h2 tk2 X => ?_
  exact B.text i hi ⟨h2, g, d, tk2, os⟩ (A.deeper env) Q _ X hA (by show A.depth + 1 + 100 ≤ _; omega) fun h' tk' t X' => hQ h' tk' t fun b o q => X' b o (X b o q)
noncomputable def Kt (tx : Nat → Str) (i : Nat) (k : Value) (_ : Heap) : Prop := ∃ t, k = .str (tx i) t
theorem sk2 {w : World} {s : Shared} {A : Around} {n ax : Nat} {P : Nat → List Int} {U : List Int} {tx : Nat → Str} {qual : Str} {pm ctv : Value} {c' f : Addr} {o : Obj} (B : Pb w s.heap n ax P U tx) (L : Pl n ax P U tx) (hl : s.heap.get? f = some o) (ho : o.data = .func (fdLam2 w.params qual pm ctv c')) (hc : s.heap.CodeRec (.ref c') qual)
    (hA : A.handled = none) (hd : A.depth ≤ 450) :
    SortKey Prg w A s s.heap (refs n) (.ref f) (.type "str") (fun i j => decide (turnF (P i) (P j) U < 0)) (Kt tx) where
  mono := by
    rintro i k h h' ⟨t, rfl⟩ nl
    exact ⟨t, rfl⟩
  t1 := by decide
  t2 := by decide
  types := by
    rintro i k h ⟨t, rfl⟩ _
    exact Looks.of_pure rfl
  cmp := by
    rintro i j ki kj h tk Q hi hj ⟨t, rfl⟩ ⟨u, rfl⟩ X hQ
    refine kas_lt_str ?_
    rw [← L.lt]
    exact hQ h tk fun _ _ e => e
  turn := by
    intro i v h tk hv X
    obtain ⟨hi, rfl⟩ := refs_get hv
    exact lam2_at (s := { s with heap := h, toks := tk }) (B.keeps X) (X _ _ hl) ho (hc.keeps X) hi hA (by omega) fun h' tk' t X' => ⟨h', tk', rfl, X', t, rfl⟩
end Mine
end
section -- MXd
set_option maxRecDepth 100000
set_option linter.constructorNameAsVariable false
set_option linter.unusedVariables false
namespace Mine
/-- the order of the points -/
noncomputable def ordP (n : Nat) (P : Nat → List Int) (U : List Int) : List Nat := (sortP (fun i j => decide (turnF (P i) (P j) U < 0)) n).toList
theorem ordP_lt {n : Nat} (hn : 0 < n) (P : Nat → List Int) (U : List Int) : (ordP n P U).length = n ∧ ∀ i ∈ ordP n P U, i < n := by
  have bd := sortP_bd (lt := fun i j => decide (turnF (P i) (P j) U < 0)) hn
  refine ⟨by unfold ordP; rw [Array.length_toList]; exact bd.sz, fun i hi => ?_⟩
  obtain ⟨k, hk, e⟩ := List.mem_iff_getElem.mp hi
  have := bd.lt k
  have hk' : k < (sortP (fun i j => decide (turnF (P i) (P j) U < 0)) n).size := by unfold ordP at hk; rw [Array.length_toList] at hk; exact hk
  have e2 : (sortP (fun i j => decide (turnF (P i) (P j) U < 0)) n).getD k 0 = i := by
    rw [← e]; unfold ordP; simp only [Array.getD_eq_getD_getElem?, Array.getElem?_eq_getElem hk', Option.getD_some]; exact (Array.getElem_toList _).symm
  omega
theorem ordP_refs {n : Nat} (hn : 0 < n) (P : Nat → List Int) (U : List Int) : (sortP (fun i j => decide (turnF (P i) (P j) U < 0)) (refs n).length).map (fun i => (refs n).getD i .none) = ⟨(ordP n P U).map fun i => .ref (100 + 12 * i)⟩ := by
  rw [refs_len]
  apply Array.ext'
  rw [Array.toList_map]
  show _ = (ordP n P U).map fun i => Value.ref (100 + 12 * i)
  unfold ordP
  refine List.map_congr_left fun i hi => ?_
  have := (ordP_lt hn P U).2 i hi
  unfold refs
  simp [List.getD, this]
theorem call_name_kw {w : World} {A : Around} {s : Shared} {Q E : Value → Shared → Prop} {env : Env} {id : Str} {p pos : Pos} {args : List Expr} {kws : List Keyword}
    (h : wpAny (model Prg w) A (eval (.Name id p) env) (fun f s₁ => wpAny (model Prg w) A (callWith pos f [] (backTo pos (starEach args env)) (backToKw pos (keywordEach kws env))) Q E s₁) E s) :
    wpAny (model Prg w) A (eval (.Call (.Name id p) args kws pos) env) Q E s := by
  show wpAny (model Prg w) A (do callWith pos (← eval (.Name id p) env) [] (backTo pos (starEach args env)) (backToKw pos (keywordEach kws env))) Q E s
  exact wpAny_bind h
section
variable {w : World} {A : Around} {s : Shared} {Q E : Value → Shared → Prop} {env : Env} {g : Heap} {n ax : Nat} {P : Nat → List Int} {U : List Int} {tx : Nat → Str} {m : Str → Option Value}
/-- what a key has to show -/
noncomputable def KeyAt (w : World) (A : Around) (n ax : Nat) (P : Nat → List Int) (U : List Int) (tx : Nat → Str) (R : Shared → Prop) (v : Value) (s₁ : Shared) : Prop :=
  ∃ f T K, v = .ref f ∧ Pb w s₁.heap n ax P U tx ∧ SortKey Prg w A.in1.in1 s₁ s₁.heap (refs n) (.ref f) T (fun i j => decide (turnF (P i) (P j) U < 0)) K ∧ R s₁
theorem ev_sorted {kwe : Expr} {p1 p2 p3 p4 : Pos} {R : Shared → Prop} (O : EnvOk env) (L : Pl n ax P U tx) (B : Pb w s.heap n ax P U tx) (hn : s.heap.Ns 66 m) (hm : m (sq "points") = some (.ref 86))
    (hk : wpAny (model Prg w) A (eval kwe env) (KeyAt w A n ax P U tx R) E s)
    (hQ : ∀ s₁, R s₁ → Pb w s₁.heap n ax P U tx → ∀ D h' tk c, Ext s₁.heap h' → h'.get? D = some (lst ((ordP n P U).map fun i => .ref (100 + 12 * i)) c) → s₁.heap.get? D = none → Q (.ref D) { s₁ with heap := h', toks := tk }) :
    wpAny (model Prg w) A (eval (.Call (nm "sorted" p1) [nm "points" p2] [⟨some (sq "key"), kwe, p3⟩] p4) env) Q E s := by
  have h12 := L.n12
  have h5 := L.n5
  refine call_name_kw (nm_built B.bs O.kind O.sorted O.glb O.blt (nmOk _).sorted bb_sorted (by decide) ?_)
  refine callWith_kw (spliced_cons (nm_loc O.kind O.points (O.loc ▸ hn) hm (spliced_nil ?_)))
  refine wpAny_evalAll_cons (x := eval kwe env >>= fun v => standAt p4 >>= fun _ => pure v) (rest := []) (wpAny_bind (wpAny_mono hk (fun v s₁ hv => wpAny_bind (wpAny_standAt (wpAny_pure ?_))) fun _ _ e => e))
  obtain ⟨f, T, K, rfl, B1, Z, hR⟩ := hv
  refine wpAny_evalAll_nil ?_
  show wpAny (model Prg w) A (call (.builtin "sorted") [.ref 86] [(Str.ofString "key", .ref f)]) Q E s₁
  refine so_sorted Z ⟨_, B1.l86, rfl, n, rfl⟩ (by rw [refs_len]; omega) (by rw [refs_len]; omega) (ksk_s1 _ _) (fun x => ksk_l1 _ _) (fun x => ksk_t1 f x) fun D h' tk c X hD hN => ?_
  refine hQ s₁ hR B1 D h' tk c X ?_ hN
  rw [ordP_refs (by omega)] at hD
  exact hD
end
end Mine
end
section -- MC6B
set_option maxRecDepth 100000
set_option linter.constructorNameAsVariable false
namespace Mine
theorem ck_5_t (w : World) (h : Heap) (d : Drawn) (tk : Nat) (os : OsState) : CkRan (pin1 w true) h 151 d tk os := ⟨by kernel_rfl⟩
theorem ck_5_f (w : World) (h : Heap) (d : Drawn) (tk : Nat) (os : OsState) : CkRan (pin1 w false) h 151 d tk os := ⟨by kernel_rfl⟩
theorem ck_6_t (w : World) (h : Heap) (d : Drawn) (tk : Nat) (os : OsState) : CkRan (pin1 w true) h 163 d tk os := ⟨by kernel_rfl⟩
theorem ck_6_f (w : World) (h : Heap) (d : Drawn) (tk : Nat) (os : OsState) : CkRan (pin1 w false) h 163 d tk os := ⟨by kernel_rfl⟩
theorem ck_7_t (w : World) (h : Heap) (d : Drawn) (tk : Nat) (os : OsState) : CkRan (pin1 w true) h 175 d tk os := ⟨by kernel_rfl⟩
theorem ck_7_f (w : World) (h : Heap) (d : Drawn) (tk : Nat) (os : OsState) : CkRan (pin1 w false) h 175 d tk os := ⟨by kernel_rfl⟩
theorem ck_8_t (w : World) (h : Heap) (d : Drawn) (tk : Nat) (os : OsState) : CkRan (pin1 w true) h 187 d tk os := ⟨by kernel_rfl⟩
theorem ck_8_f (w : World) (h : Heap) (d : Drawn) (tk : Nat) (os : OsState) : CkRan (pin1 w false) h 187 d tk os := ⟨by kernel_rfl⟩
theorem ck_9_t (w : World) (h : Heap) (d : Drawn) (tk : Nat) (os : OsState) : CkRan (pin1 w true) h 199 d tk os := ⟨by kernel_rfl⟩
theorem ck_9_f (w : World) (h : Heap) (d : Drawn) (tk : Nat) (os : OsState) : CkRan (pin1 w false) h 199 d tk os := ⟨by kernel_rfl⟩
theorem ck_10_t (w : World) (h : Heap) (d : Drawn) (tk : Nat) (os : OsState) : CkRan (pin1 w true) h 211 d tk os := ⟨by kernel_rfl⟩
theorem ck_10_f (w : World) (h : Heap) (d : Drawn) (tk : Nat) (os : OsState) : CkRan (pin1 w false) h 211 d tk os := ⟨by kernel_rfl⟩
theorem ck_11_t (w : World) (h : Heap) (d : Drawn) (tk : Nat) (os : OsState) : CkRan (pin1 w true) h 223 d tk os := ⟨by kernel_rfl⟩
theorem ck_11_f (w : World) (h : Heap) (d : Drawn) (tk : Nat) (os : OsState) : CkRan (pin1 w false) h 223 d tk os := ⟨by kernel_rfl⟩
theorem ck_12_t (w : World) (h : Heap) (d : Drawn) (tk : Nat) (os : OsState) : CkRan (pin1 w true) h 235 d tk os := ⟨by kernel_rfl⟩
theorem ck_12_f (w : World) (h : Heap) (d : Drawn) (tk : Nat) (os : OsState) : CkRan (pin1 w false) h 235 d tk os := ⟨by kernel_rfl⟩
end Mine
end
section -- MXe
set_option maxRecDepth 100000
set_option linter.constructorNameAsVariable false
set_option linter.unusedVariables false
namespace Mine
theorem ck_any (n : Nat) (h5 : 5 ≤ n) (h12 : n ≤ 12) (b : Bool) (w : World) (h : Heap) (d : Drawn) (tk : Nat) (os : OsState) : CkRan (pin1 w b) h (91 + 12 * n) d tk os := by
  have : n = 5 ∨ n = 6 ∨ n = 7 ∨ n = 8 ∨ n = 9 ∨ n = 10 ∨ n = 11 ∨ n = 12 := by omega
  rcases this with rfl | rfl | rfl | rfl | rfl | rfl | rfl | rfl <;> cases b
  · exact ck_5_f w h d tk os
  · exact ck_5_t w h d tk os
  · exact ck_6_f w h d tk os
  · exact ck_6_t w h d tk os
  · exact ck_7_f w h d tk os
  · exact ck_7_t w h d tk os
  · exact ck_8_f w h d tk os
  · exact ck_8_t w h d tk os
  · exact ck_9_f w h d tk os
  · exact ck_9_t w h d tk os
  · exact ck_10_f w h d tk os
  · exact ck_10_t w h d tk os
  · exact ck_11_f w h d tk os
  · exact ck_11_t w h d tk os
  · exact ck_12_f w h d tk os
  · exact ck_12_t w h d tk os
theorem ck_out {x : Option (Value × Value × RS × RS)} {l v : Value} {m : Nat} {ch : Ch} {ob : List (Int × Int)} {os : List (Option Obj)} (e : ckOut x = some (l, v, m, ch, ob, os)) :
    ∃ st1 st5, x = some (l, v, st1, st5) ∧ st5.m = m ∧ st5.ch = ch ∧ st5.ob = ob ∧ ckIx.map st5.T.get = os := by
  cases x with
  | none => cases e
  | some y =>
    obtain ⟨l', v', st1, st5⟩ := y
    simp only [ckOut, Option.some.injEq, Prod.mk.injEq] at e
    obtain ⟨rfl, rfl, e1, e2, e3, e4⟩ := e
    exact ⟨st1, st5, rfl, e1, e2, e3, e4⟩
theorem ck6_split {V : XV} {l v : Value} {st1 st5 : RS} (e : ck6 V = some (l, v, st1, st5)) :
    (R V true 5000).1 _ (evalF (lamE V.w.params) (envL V.w.params)) (rs0 []) = some (.ok l, st1) ∧ ∃ env st2, ckRun V l st1 = some (env, v, st2, st5) := by
  unfold ck6 at e
  split at e
  · rename_i l' st1' e1
    split at e
    · rename_i env v' st2 st5' e2
      cases e
      exact ⟨e1, env, st2, e2⟩
    · cases e
  · cases e
theorem kh_puts {h : Heap} {N : Nat} : ∀ {l : List (Nat × Obj)} {t : KT}, KH t h → (∀ p ∈ l, h.get? (N + p.1) = some p.2) → KH (l.foldl (fun t p => t.put 40 (N + p.1) p.2) t) h
  | [], _, K, _ => K
  | p :: l, t, K, H => kh_puts (l := l) (kh_put K (H p (.head _))) fun q hq => H q (.tail _ hq)
/-- behind the class's making -/
structure Aft6 (h h6 : Heap) (m : Str → Option Value) (N : Nat) : Prop where
  fr : Fr (bas h) 66 h6 m
  c69 : h6.get? 69 = some celN
  c70 : h6.get? 70 = some celN
  t61 : h6.get? 61 = some (tabObj #[I0 65, I0 40, .ref (N + 6)])
  t23 : ∃ vs, h6.get? 23 = some (tabObj vs)
theorem ckIx_at {f : Nat → Option Obj} {P : Params} {tk N : Nat} (e : ckIx.map f = (ckObjs P tk N).map some) : ∀ p ∈ List.zip ckIx (ckObjs P tk N), f p.1 = some p.2 := by
  have z : ∀ (a : List Nat) (b : List Obj), a.map f = b.map some → ∀ p ∈ List.zip a b, f p.1 = some p.2 := by
    intro a
    induction a with
    | nil => intro b _ p hp; cases hp
    | cons x a ih =>
      intro b e p hp
      cases b with
      | nil => cases hp
      | cons y b =>
        simp only [List.map_cons, List.cons.injEq] at e
        rcases List.mem_cons.mp hp with rfl | hp
        · exact e.1
        · exact ih b e.2 p hp
  exact z _ _ e
theorem ck_at {w : World} {h6 : Heap} {tk N : Nat} (K2h : KH (KT2 w.params) h6) (H : ∀ p ∈ List.zip ckIx (ckObjs w.params tk N), h6.get? (N + p.1) = some p.2) : CkAt w h6 tk N :=
  CkAt.mk (kh_puts K2h H) (H (7, oLam w.params N) (.tail _ (.head _))) (H (6, oLamC tk N) (.head _)) (H (32, oLt w.params N) (by simp [ckIx, ckObjs])) (H (31, oLtC tk N) (by simp [ckIx, ckObjs]))
    (H (68, oCls tk N) (by simp [ckIx, ckObjs])) (H (67, oNs w.params tk N) (by simp [ckIx, ckObjs]))
end Mine
end
section -- MXf
set_option maxRecDepth 100000
set_option linter.constructorNameAsVariable false
set_option linter.unusedVariables false
namespace Mine
theorem v6_ok {w : World} {h : Heap} {N : Nat} {d : Drawn} {tk : Nat} {os : OsState} (K : KH (KT65 w.params) h) (hs : h.objs.size = N) : (V6 w h N d tk os).Ok := XV.Ok.mk hs K.k (tabs_of K)
theorem fnAt28 (P : Params) : FnAt P 28 := ⟨by kernel_rfl, by kernel_rfl⟩
theorem lam_se1 (P : Params) (p : Pos) (env : Env) : backTo p (starEach [lamE P] env) = [(false, eval (lamE P) env)] := by kernel_rfl
theorem aft6_of {w : World} {h h5 h6 : Heap} {m : Str → Option Value} {N : Nat} {d : Drawn} {tk : Nat} {os : OsState} {T : BT} (F : Fr (bas h) 66 h5 m) (e69 : h5.get? 69 = some celN) (e70 : h5.get? 70 = some celN)
    (D : Rep (V6 w h5 N d tk os) h6 T 72 (ckCh N)) : Aft6 h h6 m N := by
  have keep : ∀ b o, b ≠ 61 → b ≠ 23 → h5.get? b = some o → h6.get? b = some o := fun b o n1 n2 e => D.keep b o e (by
    unfold ckCh chLook
    split
    · rename_i hb; exact absurd (Nat.eq_of_beq_eq_true hb).symm n1
    · unfold chLook
      split
      · rename_i hb; exact absurd (Nat.eq_of_beq_eq_true hb).symm n2
      · rfl)
  have n61 : (bas h).get? 61 = none := hideAll_none _ (by simp)
  have n23 : (bas h).get? 23 = none := hideAll_none _ (by simp)
  refine ⟨⟨F.ns.at' fun o e => keep _ _ (by decide) (by decide) e, fun b o e => keep b o (fun q => by rw [q, n61] at e; cases e) (fun q => by rw [q, n23] at e; cases e) (F.keep b o e), F.above⟩, keep _ _ (by decide) (by decide) e69, keep _ _ (by decide) (by decide) e70, ?_, ?_⟩
  · exact (D.ch 61 _ rfl).1
  · exact ⟨_, (D.ch 23 _ rfl).1⟩
theorem pb_rep {w : World} {h5 h6 : Heap} {n ax N : Nat} {P : Nat → List Int} {U : List Int} {tx : Nat → Str} {d : Drawn} {tk : Nat} {os : OsState} {T : BT} (B : Pb w h5 n ax P U tx) (D : Rep (V6 w h5 N d tk os) h6 T 72 (ckCh N)) : Pb w h6 n ax P U tx := by
  refine B.buts (l := [61, 23]) (fun a ha => ?_) fun b o hb e => D.keep b o e ?_
  · rcases List.mem_cons.mp ha with rfl | ha
    · exact .inl rfl
    · exact .inr (.inl (List.mem_singleton.mp ha))
  · simp only [List.mem_cons, List.not_mem_nil, or_false, not_or] at hb
    unfold ckCh chLook
    split
    · rename_i hb'; exact absurd (Nat.eq_of_beq_eq_true hb').symm hb.1
    · unfold chLook
      split
      · rename_i hb'; exact absurd (Nat.eq_of_beq_eq_true hb').symm hb.2
      · rfl
theorem pre_ob {V : XV} {f : Addr} {args : Args} {k : Nat} {env : Env} {st st' : RS} (e : preRun V f args k st = some (env, st')) (ho : ObOk st'.ob) : ObOk st.ob := by
  unfold preRun at e
  split at e
  · rename_i binds st1 e1
    split at e
    · rename_i env' st2 e2
      split at e
      · rename_i st3 e3
        cases e
        exact ((R_ob V 5000 true).1 _ _ _ _ _ e1).1 (((R_ob V 5000 true).1 _ _ _ _ _ e2).1 (((R_ob V 5000 true).1 _ _ _ _ _ e3).1 ho))
      · cases e
    · cases e
  · cases e
theorem ck_ob {V : XV} {arg v : Value} {env : Env} {st st2 st' : RS} (e : ckRun V arg st = some (env, v, st2, st')) (ho : ObOk st'.ob) : ObOk st.ob := by
  unfold ckRun at e
  split at e
  · rename_i env' st2' e2
    split at e
    · rename_i x st3 e3
      split at e
      · rename_i st4 e4
        split at e
        · rename_i v' st5 e5
          cases e
          exact pre_ob e2 (((R_ob V 5000 true).1 _ _ _ _ _ e3).1 (((R_ob V 5000 true).1 _ _ _ _ _ e4).1 (((R_ob V 5000 true).1 _ _ _ _ _ e5).1 ho)))
        · cases e
      · cases e
    · cases e
  · cases e
theorem rep_keep {V : XV} {h : Heap} {T : BT} {m : Nat} {ch : Ch} (D : Rep V h T m ch) {a : Addr} {o : Obj} (e : V.h₀.get? a = some o) (hn : ∀ ps, o ≠ tableObj ps) : h.get? a = some o := by
  cases q : chLook ch a with
  | none => exact D.keep _ _ e q
  | some vs =>
    obtain ⟨_, c, ps, more, ht, _⟩ := D.ch _ _ q
    exact absurd (Option.some.inj (e.symm.trans ht.2)) (hn ps)
section
variable {b : Bool} {w : World} {A : Around} {h h5 : Heap} {g : Array GenState} {d : Drawn} {tk : Nat} {os : OsState} {n ax : Nat} {P : Nat → List Int} {U : List Int} {tx : Nat → Str} {m : Str → Option Value}
/-- cmp_to_key(lambda ..): the first sort's key -/
theorem key1_ok {p1 p2 : Pos} (L : Pl n ax P U tx) (B : Pb (pin1 w b) h5 n ax P U tx) (F : Fr (bas h) 66 h5 m) (e69 : h5.get? 69 = some celN) (e70 : h5.get? 70 = some celN) (hs : h5.objs.size = 91 + 12 * n) (K : KH (KT65 (pin1 w b).params) h5)
    (hA : A.handled = none) (hd : A.depth ≤ 400) (hu : A.units ≤ 3000) :
    wpAny (model Prg (pin1 w b)) A (eval (.Call (nm "cmp_to_key" p1) [lamE (pin1 w b).params] [] p2) (envL (pin1 w b).params))
      (KeyAt (pin1 w b) A n ax P U tx fun s₁ => ∃ h6 tk6, s₁ = ⟨h6, g, d, tk6, os⟩ ∧ Aft6 h h6 m (91 + 12 * n)) EF ⟨h5, g, d, tk, os⟩ := by
  obtain ⟨st1, st5, e, em, ec, eb, eo⟩ := ck_out (ck_any n L.n5 L.n12 b w h5 d tk os).e
  obtain ⟨e1, env2, st2, e2⟩ := ck6_split e
  have O := v6_ok (d := d) (tk := tk) (os := os) K hs
  have OE := envOk (pin1 w b).params
  have F28 := fnAt28 (pin1 w b).params
  have F28c := def_cmp (pin1 w b).params
  have hr : (1000 : Nat) = recursionLimit := rfl
  have hob : ObOk st5.ob := by rw [eb]; exact fun p hp => nomatch hp
  have hob1 : ObOk st1.ob := ck_ob e2 hob
  refine wpAny_Call_NameR (nm_glob B.bs OE.kind OE.cmp OE.glb (nmOk _).cmp ?_)
  rw [lam_se1]
  refine callWith_function (o := objAt (pin1 w b).params 28) (fd := fdAt (pin1 w b).params 28) (evalArgs_plain (spliced_cons ?_))
  rw [evalF_eq]
  refine (R_sound O g 5000 true).1 _ _ _ _ _ e1 h5 A _ _ hA (Rep.start O) hob1 fun h1 D1 => spliced_nil ?_
  have k28 : h1.get? 28 = some (objAt (pin1 w b).params 28) := rep_keep D1 (kh_at K F28c.obj) fun ps q => by
    have := F28.data
    rw [q] at this
    cases this
  have k27 : h1.get? 27 = some (objAt (pin1 w b).params 27) := rep_keep D1 (kh_at K F28c.cobj) fun ps q => by
    have := congrArg Obj.cls (tab_23 (pin1 w b).params).cls
    rw [q] at this
    cases this
  refine ⟨⟨k28, F28.data⟩, wpAny_call ?_⟩
  refine ckRun_sound O (g := g) k28 k27 B.bs.kn.lim e2 hA (by omega) D1 hob fun h6 D6 => ?_
  rw [em, ec] at D6
  have own : ∀ p ∈ List.zip ckIx (ckObjs (pin1 w b).params tk (91 + 12 * n)), h6.get? (91 + 12 * n + p.1) = some p.2 := fun p hp => (D6.own _ _ (ckIx_at eo p hp)).2
  have B6 := pb_rep B D6
  show KeyAt _ _ _ _ _ _ _ _ (.ref _) (sh (V6 (pin1 w b) h5 (91 + 12 * n) d tk os) g h6 st5)
  exact ⟨_, _, _, rfl, B6, sk1 (s := sh (V6 (pin1 w b) h5 (91 + 12 * n) d tk os) g h6 st5) B6 L (ck_at B6.bs.kn.kt own) hA (by show A.depth ≤ 450; omega) (by show A.units + 1 + 1 ≤ 3500; omega), h6, _, rfl, aft6_of F e69 e70 D6⟩
end
end Mine
end
section -- MXg
set_option maxRecDepth 100000
set_option linter.constructorNameAsVariable false
set_option linter.unusedVariables false
namespace Mine
/-- behind row -/
structure Aft7 (w : World) (h h7 : Heap) (n ax : Nat) (P : Nat → List Int) (U : List Int) (tx : Nat → Str) (m : Str → Option Value) (D : Addr) (v61 : Array Value) : Prop where
  pb : Pb w h7 n ax P U tx
  fr : Fr (bas h) 66 h7 m
  c69 : ∃ o, h7.get? 69 = some o ∧ o.data = .cell (some (.ref D))
  c70 : h7.get? 70 = some celN
  row : ∃ c, h7.get? D = some (lst ((ordP n P U).map fun i => .ref (100 + 12 * i)) c)
  dn : D ≠ 66 ∧ (bas h).get? D = none
  t61 : h7.get? 61 = some (tabObj v61)
  t23 : ∃ vs, h7.get? 23 = some (tabObj vs)
theorem Aft7.keeps {w : World} {h h7 h8 : Heap} {n ax : Nat} {P : Nat → List Int} {U : List Int} {tx : Nat → Str} {m : Str → Option Value} {D : Addr} {v61 : Array Value} (Z : Aft7 w h h7 n ax P U tx m D v61) (x : Ext h7 h8) : Aft7 w h h8 n ax P U tx m D v61 := by
  obtain ⟨o, c69, d69⟩ := Z.c69
  obtain ⟨c, row⟩ := Z.row
  obtain ⟨vs, t23⟩ := Z.t23
  exact ⟨Z.pb.keeps x, Z.fr.keeps x, ⟨o, x _ _ c69, d69⟩, x _ _ Z.c70, ⟨c, x _ _ row⟩, Z.dn, x _ _ Z.t61, ⟨vs, x _ _ t23⟩⟩
theorem Aft7.tab {w : World} {h h7 h8 : Heap} {n ax : Nat} {P : Nat → List Int} {U : List Int} {tx : Nat → Str} {m : Str → Option Value} {D : Addr} {v61 v61' : Array Value} (Z : Aft7 w h h7 n ax P U tx m D v61) (x : Heap.ExtBut 61 h7 h8) (e : h8.get? 61 = some (tabObj v61')) : Aft7 w h h8 n ax P U tx m D v61' := by
  obtain ⟨o, c69, d69⟩ := Z.c69
  obtain ⟨c, row⟩ := Z.row
  obtain ⟨vs, t23⟩ := Z.t23
  have n61 : (bas h).get? 61 = none := hideAll_none _ (by simp)
  have hD : D ≠ 61 := fun q => by
    rw [q, Z.t61] at row
    cases row
  refine ⟨Z.pb.but (free61 n) fun b o hb e => x b o hb e, ⟨Z.fr.ns.at' fun o e => x _ o (by decide) e, fun b o e => x b o (fun q => by rw [q, n61] at e; cases e) (Z.fr.keep b o e), Z.fr.above⟩, ⟨o, x _ _ (by decide) c69, d69⟩, x _ _ (by decide) Z.c70, ⟨c, x _ _ hD row⟩, Z.dn, e, ⟨vs, x _ _ (by decide) t23⟩⟩
/-- the sixth statement's shape -/
noncomputable abbrev s6 (q : Nat → Pos) (lam : Expr) : Stmt := .Assign [nm "row" (q 0)] (.Call (nm "sorted" (q 1)) [nm "points" (q 2)] [⟨some (sq "key"), .Call (nm "cmp_to_key" (q 3)) [lam] [] (q 4), q 5⟩] (q 6)) (q 7)
noncomputable abbrev s7 (q : Nat → Pos) (lam : Expr) (bd : List Stmt) : Stmt := .If (.Compare (nm "row" (q 0)) [.NotEq] [.Call (nm "sorted" (q 1)) [nm "points" (q 2)] [⟨some (sq "key"), lam, q 3⟩] (q 4)] (q 5)) bd [] (q 6)
noncomputable def pt6 : Option Stmt → List Pos
  | some (.Assign [.Name _ a0] (.Call (.Name _ a1) [.Name _ a2] [⟨_, .Call (.Name _ a3) _ _ a4, a5⟩] a6) a7) => [a0, a1, a2, a3, a4, a5, a6, a7]
  | _ => []
noncomputable def pt7 : Option Stmt → List Pos × List Stmt
  | some (.If (.Compare (.Name _ a0) _ [.Call (.Name _ a1) [.Name _ a2] [⟨_, _, a3⟩] a4] a5) bd _ a6) => ([a0, a1, a2, a3, a4, a5, a6], bd)
  | _ => default
noncomputable abbrev q6 (P : Params) : Nat → Pos := atq (pt6 ((bodyAt P 64)[5]?))
noncomputable abbrev z7 (P : Params) := pt7 ((bodyAt P 64)[6]?)
theorem body5 (P : Params) : (bodyAt P 64).drop 5 = s6 (q6 P) (lamE P) :: s7 (atq (z7 P).1) (lamE2 P) (z7 P).2 :: (bodyAt P 64).drop 7 := by kernel_rfl
section
variable {b : Bool} {w : World} {A : Around} {h h5 : Heap} {g : Array GenState} {d : Drawn} {tk : Nat} {os : OsState} {n ax : Nat} {P : Nat → List Int} {U : List Int} {tx : Nat → Str} {m : Str → Option Value}
/-- row = sorted(..) -/
theorem s6_ok {q : Nat → Pos} {Q : Flow → Shared → Prop} (L : Pl n ax P U tx) (B : Pb (pin1 w b) h5 n ax P U tx) (F : Fr (bas h) 66 h5 m) (hm : m (sq "points") = some (.ref 86)) (e69 : h5.get? 69 = some celN) (e70 : h5.get? 70 = some celN) (hs : h5.objs.size = 91 + 12 * n) (K : KH (KT65 (pin1 w b).params) h5)
    (hA : A.handled = none) (hd : A.depth ≤ 400) (hu : A.units ≤ 3000)
    (hQ : ∀ h7 tk7 D v61, Aft7 (pin1 w b) h h7 n ax P U tx m D v61 → TriplesOk v61.toList → (∃ N, v61 = #[I0 65, I0 40, .ref N]) → Q .next ⟨h7, g, d, tk7, os⟩) :
    wpAny (model Prg (pin1 w b)) A (exec (s6 q (lamE (pin1 w b).params)) (envL (pin1 w b).params)) Q EF ⟨h5, g, d, tk, os⟩ := by
  have OE := envOk (pin1 w b).params
  refine wpAny_Assign_Name (ev_sorted OE L B F.ns hm (key1_ok L B F e69 e70 hs K hA hd hu) ?_)
  rintro _ ⟨h6, tk6, rfl, Z⟩ B6 D h' tk' c X hD hN
  have e69' := X _ _ Z.c69
  refine wpAny_storeName_cell OE.kind OE.row OE.c69 (v₀ := none) ⟨_, e69', rfl⟩ fun h7 hc hs7 => ?_
  obtain ⟨o, g69, d69⟩ := hc
  obtain ⟨vs, t23⟩ := Z.t23
  have n69 : (bas h).get? 69 = none := Heap.get?_none_of_le (Nat.le_trans Z.fr.above (by decide))
  have nD : ∀ a o, h6.get? a = some o → D ≠ a := fun a o e q => by
    have hN' : h6.get? D = none := hN
    rw [q, e] at hN'; cases hN'
  obtain ⟨o66, _, _, g66, _⟩ := Z.fr.ns
  have up : ∀ a o, a ≠ 69 → h6.get? a = some o → h7.get? a = some o := fun a o ha e => (hs7.2 a ha).trans (X _ _ e)
  refine hQ h7 _ D _ ⟨(B6.keeps X).but (free69 n) fun b o hb e => (hs7.2 b hb).trans e, (Z.fr.keeps X).change hs7 (by decide) n69, ⟨o, g69, d69⟩, up _ _ (by decide) Z.c70, ⟨c, (hs7.2 D (nD _ _ Z.c69)).trans hD⟩, ⟨nD _ _ g66, ?_⟩, up _ _ (by decide) Z.t61, ⟨vs, up _ _ (by decide) t23⟩⟩ trivial ⟨_, rfl⟩
  cases q : (bas h).get? D with
  | none => rfl
  | some o => exact absurd rfl (nD _ _ (Z.fr.keep _ _ q))
end
end Mine
end
section -- MXh
set_option maxRecDepth 100000
set_option linter.constructorNameAsVariable false
set_option linter.unusedVariables false
namespace Mine
noncomputable def vStr : Value → Str × Tok
  | .str s t => (s, t)
  | _ => default
noncomputable def vInt : Value → Int × Tok
  | .int i t => (i, t)
  | _ => default
noncomputable def vBoo : Value → Bool
  | .bool b => b
  | _ => false
/-- law's code object -/
structure HdAt (P : Params) : Prop where
  obj : (KT2 P).get 63 = some (objAt P 63)
  cls : (objAt P 63).cls = .type "code"
  dat : (objAt P 63).data = .fields (fldAt P 63)
  tab : (fldAt P 63)[11]? = some (.ref 61)
  tab2 : (fldAt P 63).getD 11 .none = .ref 61
  file : (fldAt P 63).getD 18 .none = .str (vStr ((fldAt P 63).getD 18 .none)).1 (vStr ((fldAt P 63).getD 18 .none)).2
  flg : (fldAt P 63).getD 7 .none = .int (vInt ((fldAt P 63).getD 7 .none)).1 (vInt ((fldAt P 63).getD 7 .none)).2
  inF : (fldAt P 63).getD 9 .none = .bool (vBoo ((fldAt P 63).getD 9 .none))
  txt : (fldAt P 63).getD 10 .none = .int (vInt ((fldAt P 63).getD 10 .none)).1 (vInt ((fldAt P 63).getD 10 .none)).2
theorem hdAt (P : Params) : HdAt P := ⟨by kernel_rfl, by kernel_rfl, by kernel_rfl, by kernel_rfl, by kernel_rfl, by kernel_rfl, by kernel_rfl, by kernel_rfl, by kernel_rfl⟩
theorem codeHd_of {P : Params} {h : Heap} (K : KH (KT2 P) h) : CodeHd h 63 61 := by
  have H := hdAt P
  exact ⟨_, _, _, _, _, _, _, _, _, kh_at K H.obj, H.cls, H.dat, H.tab, H.tab2, H.file, H.flg, H.inF, H.txt, by decide⟩
noncomputable def lamPos : Expr → Pos
  | .Lambda _ _ _ p => p
  | _ => ps0
noncomputable abbrev lp2 (P : Params) : Pos := lamPos (lamE2 P)
/-- the second key's lambda -/
structure La2 (P : Params) : Prop where
  eq : lamE2 P = .Lambda (lamQ2 P).1 (lamQ2 P).2.1 (lamQ2 P).2.2 (lp2 P)
  dfl : ∀ env, defaultsOf (lamQ2 P).1 env = ([], [])
  clo : closureFor (lamQ2 P).2.2 (envL P) = pure cl2
  cod : ∀ N, codeAmong (lp2 P) [I0 65, I0 40, .ref N] = none
theorem la2 (P : Params) : La2 P := ⟨by kernel_rfl, fun env => by kernel_rfl, by kernel_rfl, fun N => by kernel_rfl⟩
section
variable {b : Bool} {w : World} {A : Around} {h h7 : Heap} {g : Array GenState} {d : Drawn} {tk : Nat} {os : OsState} {n ax : Nat} {P : Nat → List Int} {U : List Int} {tx : Nat → Str} {m : Str → Option Value} {D : Addr} {v61 : Array Value}
theorem key2_ok (L : Pl n ax P U tx) (Z : Aft7 w h h7 n ax P U tx m D v61) (ht : TriplesOk v61.toList) (hv : ∃ N, v61 = #[I0 65, I0 40, .ref N]) (hA : A.handled = none) (hd : A.depth ≤ 400) :
    wpAny (model Prg w) A (eval (lamE2 w.params) (envL w.params)) (KeyAt w A n ax P U tx fun s₁ => ∃ h8 tk8 v, s₁ = ⟨h8, g, d, tk8, os⟩ ∧ Aft7 w h h8 n ax P U tx m D v) EF ⟨h7, g, d, tk, os⟩ := by
  obtain ⟨N, rfl⟩ := hv
  have OE := envOk w.params
  have X := la2 w.params
  obtain ⟨p, loose, mean, mg, mb, T⟩ := Z.pb.bs.top
  obtain ⟨bm, ob, b1, b2, b3, b4, b5, b6⟩ := T.bmain
  have hbP : bm ≠ 61 := fun q => by
    rw [q, Z.t61] at b3; cases b3; cases b4
  have hbG : bm ≠ mainGlobals := fun q => by
    obtain ⟨o, es, ep, e, hd, _⟩ := T.g
    rw [q, e] at b3; cases b3; rw [hd] at b6; cases b6
  rw [X.eq]
  refine kla_eval (X.dfl _) ?_
  refine kla_makeFunction (mg := mg) (ps := #[I0 65, I0 40, .ref N]) X.clo OE.glb T.g OE.code (codeHd_of Z.pb.bs.kn.kt) Z.t61 ht (X.cod N) (by decide) ⟨bm, ob, b1, b2, hbG, hbP, b3, b4, b5, b6⟩ fun c' ctv h' tk' hx hge hlt hrec htb => ?_
  have Z' := Z.tab hx htb
  have up : Ext h' (h'.push (kla_obj "<lambda>" ((envL w.params).qual ++ "<lambda>") (lamQ2 w.params).1 (lamQ2 w.params).2.1 (lamQ2 w.params).2.2 cl2 ((mg "__name__").getD .none) c' ctv)) := fun _ _ e => Heap.get?_push_of_some _ e
  have Z8 := Z'.keeps up
  exact ⟨_, _, _, rfl, Z8.pb, sk2 (s := ⟨_, g, d, tk', os⟩) Z8.pb L (Heap.get?_push_size _ rfl) rfl (hrec.keeps up) hA (by show A.depth ≤ 450; omega), _, _, _, rfl, Z8⟩
/-- if row != sorted(..) -/
theorem s7_ok {q : Nat → Pos} {bd : List Stmt} {Q : Flow → Shared → Prop} (L : Pl n ax P U tx) (Z : Aft7 w h h7 n ax P U tx m D v61) (hm : m (sq "points") = some (.ref 86)) (ht : TriplesOk v61.toList) (hv : ∃ N, v61 = #[I0 65, I0 40, .ref N]) (hA : A.handled = none) (hd : A.depth ≤ 400) (hu : A.units ≤ 3000)
    (hbm : behindInMarks .NotEq (.Call (nm "sorted" (q 1)) [nm "points" (q 2)] [⟨some (sq "key"), lamE2 w.params, q 3⟩] (q 4)) = false)
    (hQ : ∀ h9 tk9 v, Aft7 w h h9 n ax P U tx m D v → Q .next ⟨h9, g, d, tk9, os⟩) :
    wpAny (model Prg w) A (exec (s7 q (lamE2 w.params) bd) (envL w.params)) Q EF ⟨h7, g, d, tk, os⟩ := by
  have OE := envOk w.params
  have hcl : (9000 : Nat) ≤ cLine := by decide
  obtain ⟨o69, c69, d69⟩ := Z.c69
  refine wpAny_If (wpAny_isTrue_Compare1 (nm_cell OE.kind OE.row OE.c69 c69 d69 ?_) hbm)
  refine ev_sorted OE L Z.pb Z.fr.ns hm (key2_ok L Z ht hv hA hd) ?_
  rintro _ ⟨h8, tk8, v8, rfl, Z8⟩ B8 D2 h' tk' c X hD2 hN2
  have Z9 := Z8.keeps X
  obtain ⟨c1, row⟩ := Z9.row
  have e1 : h'.IsList D ((ordP n P U).map fun i => Value.ref (100 + 12 * i)).toArray := ⟨_, row, rfl, c1, rfl⟩
  have e2 : h'.IsList D2 ((ordP n P U).map fun i => Value.ref (100 + 12 * i)).toArray := ⟨_, hD2, rfl, c, rfl⟩
  refine SeqAt.RcNeAt.lists (A := A) (e := fun _ => true) e1 e2 rfl (by omega) (fun j h1 h2 => SeqAt.EqAt.same _) Prg w EF _ ?_
  have et : (!(List.range ((ordP n P U).map fun i => Value.ref (100 + 12 * i)).toArray.size).all fun _ => true) = false := by
    rw [Bool.not_eq_false']; exact List.all_eq_true.mpr fun _ _ => rfl
  rw [et]
  refine wpAny_truthy_bool ?_
  simp only [Bool.false_eq_true, if_false]
  exact wpAny_execs_nil (hQ _ _ _ Z9)
end
end Mine
end
section -- MXi
set_option maxRecDepth 100000
set_option linter.constructorNameAsVariable false
set_option linter.unusedVariables false
namespace Mine
/-- the ledger behind the second sort -/
theorem ledger {w : World} {h h9 : Heap} {n ax : Nat} {P : Nat → List Int} {U : List Int} {tx : Nat → Str} {m : Str → Option Value} {D : Addr} {v61 : Array Value} (hsz : h.objs.size = 66) (L : Pl n ax P U tx) (Z : Aft7 w h h9 n ax P U tx m D v61) (B0 : Bs w (bas h)) :
    ∃ news v23, News (bas h) 66 h9 news ∧ Tl w (bas h) n ax P tx (ordP n P U) D news ∧ (∃ o v, (70, o) ∈ news ∧ o.data = .cell v) ∧ (61, tabObj v61) ∈ news ∧ (23, tabObj v23) ∈ news := by
  have h5 := L.n5
  obtain ⟨po, uo, pp, uu, ip, iu, tt⟩ := Z.pb.dat
  obtain ⟨t68, c68⟩ := Z.pb.c68
  obtain ⟨o69, c69, d69⟩ := Z.c69
  obtain ⟨c, row⟩ := Z.row
  obtain ⟨v23, t23⟩ := Z.t23
  have no66 : ∀ a, 66 ≤ a → (bas h).get? a = none := fun a ha => Heap.get?_none_of_le (by rw [bas_size, hsz]; exact ha)
  have nh : ∀ a, a = 61 ∨ a = 23 → (bas h).get? a = none := fun a ha => hideAll_none _ (by rcases ha with rfl | rfl <;> simp)
  have ol := ordP_lt (n := n) (by omega) P U
  let news : List (Addr × Obj) := [(68, celO (.int (ax : Int) t68)), (71, celO (.ref 76)), (69, o69), (70, celN), (D, lst ((ordP n P U).map fun i => .ref (100 + 12 * i)) c), (76, uo), (61, tabObj v61), (23, tabObj v23)] ++ (List.range n).map fun j => (100 + 12 * j, po j)
  have pm : ∀ j, j < n → ((100 + 12 * j, po j) : Addr × Obj) ∈ news := fun j hj => List.mem_append_right _ (List.mem_map.mpr ⟨j, List.mem_range.mpr hj, rfl⟩)
  have ml : ∀ p, p ∈ [((68 : Addr), (celO (.int (ax : Int) t68) : Obj)), (71, celO (.ref 76)), (69, o69), (70, celN), (D, lst ((ordP n P U).map fun i => .ref (100 + 12 * i)) c), (76, uo), (61, tabObj v61), (23, tabObj v23)] → p ∈ news := fun p hp => List.mem_append_left _ hp
  refine ⟨news, v23, fun p hp => ?_, ?_, ⟨celN, none, ml _ (by simp), rfl⟩, ml _ (by simp), ml _ (by simp)⟩
  · rcases List.mem_append.mp hp with hp | hp
    · simp only [List.mem_cons, List.not_mem_nil, or_false] at hp
      rcases hp with rfl | rfl | rfl | rfl | rfl | rfl | rfl | rfl
      · exact ⟨c68, (by decide : (68 : Nat) ≠ 66), no66 _ (by decide : (66 : Nat) ≤ 68)⟩
      · exact ⟨Z.pb.c71, (by decide : (71 : Nat) ≠ 66), no66 _ (by decide : (66 : Nat) ≤ 71)⟩
      · exact ⟨c69, (by decide : (69 : Nat) ≠ 66), no66 _ (by decide : (66 : Nat) ≤ 69)⟩
      · exact ⟨Z.c70, (by decide : (70 : Nat) ≠ 66), no66 _ (by decide : (66 : Nat) ≤ 70)⟩
      · exact ⟨row, Z.dn.1, Z.dn.2⟩
      · exact ⟨uu, (by decide : (76 : Nat) ≠ 66), no66 _ (by decide : (66 : Nat) ≤ 76)⟩
      · exact ⟨Z.t61, (by decide : (61 : Nat) ≠ 66), nh _ (.inl rfl)⟩
      · exact ⟨t23, (by decide : (23 : Nat) ≠ 66), nh _ (.inr rfl)⟩
    · obtain ⟨j, hj, rfl⟩ := List.mem_map.mp hp
      exact ⟨pp j (List.mem_range.mp hj), by show 100 + 12 * j ≠ 66; omega, no66 _ (by show 66 ≤ 100 + 12 * j; omega)⟩
  · exact ⟨B0, ⟨t68, ml _ (by simp)⟩, ml _ (by simp), ⟨o69, ml _ (by simp), d69⟩, ⟨c, ml _ (by simp)⟩, ⟨po, uo, pm, ml _ (by simp), ip, tt⟩, ol.1, ol.2⟩
/-- the points in the order found have their texts in order -/
theorem far_P {n ax : Nat} {P : Nat → List Int} {U : List Int} {tx : Nat → Str} (L : Pl n ax P U tx) : FarOk n ax P (ordP n P U) := by
  have h5 := L.n5
  refine far_ok L fun i j hij hj => ?_
  have := sorted_texts (fun i => (tx i).cps.toList) (fun i j => decide (turnF (P i) (P j) U < 0)) n (4 * ax) (by omega) (fun i => by rw [Array.length_toList]; exact L.tl i) L.bd L.lt i j hij hj
  have e : ∀ k, (ordP n P U).getD k 0 = (sortP (fun i j => decide (turnF (P i) (P j) U < 0)) n).getD k 0 := fun k => by
    unfold ordP
    rw [List.getD_eq_getElem?_getD, Array.getElem?_toList, Array.getD_eq_getD_getElem?]
  rw [e, e]
  exact this
theorem s7_bm (P : Params) : behindInMarks .NotEq (.Call (nm "sorted" (atq (z7 P).1 1)) [nm "points" (atq (z7 P).1 2)] [⟨some (sq "key"), lamE2 P, atq (z7 P).1 3⟩] (atq (z7 P).1 4)) = false := by kernel_rfl
section
variable {b : Bool} {w : World} {A : Around} {h : Heap} {g : Array GenState} {d : Drawn} {tk : Nat} {os : OsState} {vs : List Value}
/-- the end: what stood stands, but for the two tables, which grew -/
structure Endd (h h' : Heap) : Prop where
  keep : Ext (bas h) h'
  t61 : ∃ v, h'.get? 61 = some (tabObj v)
  t23 : ∃ v, h'.get? 23 = some (tabObj v)
theorem rest_ok {h5 : Heap} {n ax : Nat} {P : Nat → List Int} {U : List Int} {tx : Nat → Str} {Q : Flow → Shared → Prop} (S : Sta (pin1 w b) h vs) (L : Pl n ax P U tx) (Z : Aft (pin1 w b) h h5 n ax P U tx) (hA : A.handled = none) (hd : A.depth ≤ 400) (hu : A.units ≤ 3000)
    (hQ : ∀ h' tk', Endd h h' → Q (.ret (.bool true)) ⟨h', g, d, tk', os⟩) :
    wpAny (model Prg (pin1 w b)) A (execs ((bodyAt (pin1 w b).params 64).drop 5) (envL (pin1 w b).params)) Q EF ⟨h5, g, d, tk, os⟩ := by
  obtain ⟨m, F, hm⟩ := Z.fr
  rw [body5]
  refine wpAny_execs_cons (s6_ok L Z.pb F hm Z.c69 Z.c70 Z.size (S.kt.keeps Z.keep) hA hd hu fun h7 tk7 D v61 Z7 ht hv => ?_)
  refine wpAny_execs_cons (s7_ok L Z7 hm ht hv hA hd hu (s7_bm _) fun h9 tk9 v9 Z9 => ?_)
  obtain ⟨news, v23, N, T, c70, m61, m23⟩ := ledger S.size L Z9 S.bs
  refine tail_ok (s := ⟨h9, g, d, tk9, os⟩) (sh_ok _) (envOk _) L T (far_P L) Z9.fr N c70 hA (by omega) (by omega) fun h' tk' m' F' kp => hQ h' tk' ⟨F'.keep, ⟨v9, kp _ m61 (by decide : (61 : Nat) ≠ 70)⟩, ⟨v23, kp _ m23 (by decide : (23 : Nat) ≠ 70)⟩⟩
theorem law_any {ns : List Int} {R : Result → Shared → Prop} (S : Sta (pin1 w b) h vs) (I : IntsAre vs ns) (hl : vs.length ≤ 2 ^ 20) (hA : A.handled = none) (hd : A.depth ≤ 390) (hu : A.units ≤ 2900)
    (hQ : ∀ h' tk', Endd h h' → R (.ok (.ret (.bool true))) ⟨h', g, d, tk', os⟩) : codeAny (model Prg (pin1 w b)) A (.call (.ref 64) ⟨[.ref 65], []⟩) R ⟨h, g, d, tk, os⟩ := by
  obtain ⟨ax, hv, hx, xs, ob, Z, ho, hax, h5, h12⟩ := pre_any b w h d tk os I hl
  have hr : (1000 : Nat) = recursionLimit := rfl
  refine law_pre S Z ho hax h12 hA (by omega) fun h5' tk5 Y => ?_
  exact rest_ok S (pl_ok hax h5 h12) Y hA (by show A.depth + 1 ≤ 400; omega) (by show A.units + 3 ≤ 3000; omega) fun h' tk' E => hQ h' tk' E
end
end Mine
end
section -- MXj
set_option maxRecDepth 100000
set_option linter.constructorNameAsVariable false
set_option linter.unusedVariables false
namespace Mine
theorem end_old {P : Params} {h h' : Heap} (K : KH (KT65 P) h) (Z : Endd h h') : OldK h h' := by
  obtain ⟨v61, e61⟩ := Z.t61
  obtain ⟨v23, e23⟩ := Z.t23
  have h61 := kh_at K (tab_61 P).tab
  have h23 := kh_at K (tab_23 P).tab
  obtain ⟨c61, q61⟩ := (tab_61 P).at K
  obtain ⟨c23, q23⟩ := (tab_23 P).at K
  refine ⟨fun b o e => ?_, fun b o e => ?_⟩
  · by_cases n1 : b = 61
    · subst n1
      rw [h61] at e; cases e
      exact .inr (.inl ⟨q61.isCodeTable, rfl, #[], v61, rfl, by rw [e61, Array.empty_append]; rfl⟩)
    · by_cases n2 : b = 23
      · subst n2
        rw [h23] at e; cases e
        exact .inr (.inl ⟨q23.isCodeTable, rfl, #[], v23, rfl, by rw [e23, Array.empty_append]; rfl⟩)
      · exact .inl (Z.keep _ _ (bas_get e n1 n2))
  · by_cases n1 : b = 61
    · subst n1; exact ⟨_, e61⟩
    · by_cases n2 : b = 23
      · subst n2; exact ⟨_, e23⟩
      · exact ⟨o, Z.keep _ _ (bas_get e n1 n2)⟩
theorem law_end : ∀ (w : World) (s : Shared) (vs : List Value) (ns : List Int) (p : Program) (loose : List Str) (mean : ExcName → Option Value) (mg mb : Str → Option Value), KT.Holds s.heap 1 0 (KT65 w.params) → (Mine.hd.heap_103 w.params).In s.heap → s.heap.objs.size = 66 → s.heap.get? 65 = some (lst vs 0) →
    Top p loose mean mg mb s.heap → IntsAre vs ns → vs.length ≤ 2 ^ 20 → s.gens = #[] →
    wpAny (model Prg w) callerA (call (.ref 64) [.ref 65]) (fun v s' => v = .bool true ∧ ∃ h' tk', s' = ⟨h', #[], s.drawn, tk', s.os⟩ ∧ OldK s.heap h') EF s := by
  refine by2 ?_
  intro b w s vs ns p loose mean mg mb ZH X hsz l65 T I hl hg
  obtain ⟨h, g, d, tk, os⟩ := s
  have hg' : g = #[] := hg
  subst hg'
  have K : KH (KT65 (pin1 w b).params) h := KH.mk ZH
  have t61 := kh_at K (tab_61 (pin1 w b).params).tab
  have t23 := kh_at K (tab_23 (pin1 w b).params).tab
  have S : Sta (pin1 w b) h vs := Sta.mk K hsz l65 (bas_bs T X (fun o e => by rw [t61] at e; cases e; exact fun q => nomatch q) (fun o e => by rw [t23] at e; cases e; exact fun q => nomatch q)) T.nolimit
  refine wpAny_call ?_
  refine law_any (g := #[]) S I hl rfl (by decide) (by decide) fun h' tk' Z => ?_
  exact ⟨rfl, h', tk', rfl, end_old K Z⟩
end Mine
end
open PySem.W.ZRun in
set_option maxRecDepth 100000 in
set_option maxHeartbeats 8000000 in
theorem PySem.Challenge.cw_mr0055_01_holds : PySem.Challenge.rw_mr0055_01.Holds := by
  refine Mine.hd ?_
  k_fill
  intro w s₀ s₁ mg mb G y fa o pm cd doc dV kV ho hd hcd hD hmg hg args vals as L hpre hlay hrd hwl hlo
  z_open y L KX ZH ZN ZT
  refine Ground.open G ?_
  intro T B D TE TW
  wrow_args hpre hlay hrd hwl hlo
  obtain ⟨hat, hsz⟩ := script_at L
  have htk := script_toks L ZT
  rw [ZN] at hat hsz
  subst hat
  x_fa T KX hmg
  all_lens
  rename Heap.IsList _ _ _ => hL9
  rename IntsAre _ _ => hI9
  rename (_ ∧ _ ≤ 2 ^ 20) => hb9
  have l65 := script_obj L hL9
  refine wpAny_mono (Mine.law_end w s₁ _ _ _ _ _ _ _ ZH KX hsz l65 T hI9 (by omega) hg) (fun v s' hv => ?_) (fun _ _ e => e.elim)
  obtain ⟨rfl, h', tk', rfl, K⟩ := hv
  exact ⟨.inl ⟨_, _, [], rfl, fun _ => rfl, ReadsW.bool true, by first | rfl | wrow_post, fun _ => ⟨List.nodup_nil, fun _ hm => (nomatch hm)⟩⟩, K, rfl, AllBare.empty⟩

