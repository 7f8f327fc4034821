import PyProof.Rows.All
import Wide.All
import OpenK.AllK
import Wide.FinOn
import Lean
import PySem.Challenge.RW_db5007_01
set_option Elab.async false

-- HD
section
open PySem PySem.W PyProof.Rows
set_option Elab.async false
namespace Mine
set_option maxRecDepth 100000 in
set_option maxHeartbeats 8000000 in
open_top hd for PySem.Challenge.rw_db5007_01
end Mine
end

-- C1
section
open PySem PySem.W PyProof.Rows PySem.Calls PyProof.V
set_option Elab.async false
set_option maxRecDepth 100000
namespace Mine
abbrev PG : Program := PySem.Challenge.rw_db5007_01.row.prog
noncomputable abbrev KK (w : World) : Frag := hd.heap_39 w.params
/-- what every heap below a frame keeps of the top -/
structure Bs (w : World) (h : Heap) : Prop where
  X : (KK w).In h
  T : ∃ p loose mean mg mb, Top p loose mean mg mb h
theorem Bs.keeps {w : World} {h h' : Heap} (B : Bs w h) (k : ∀ b o, h.get? b = some o → h'.get? b = some o) : Bs w h' := ⟨B.X.keeps k, let ⟨p, l, me, mg, mb, T⟩ := B.T; ⟨p, l, me, mg, mb, T.keeps k⟩⟩
theorem Bs.nolimit {w : World} {h : Heap} (B : Bs w h) : h.NoLimit := let ⟨_, _, _, _, _, T⟩ := B.T; T.nolimit

abbrev en (w : World) (x : Str) (t : Tok) (v : Value) : DictEntry := ⟨PyData.keyHash w.params x, .str x t, v⟩
structure HV where
  kt : Nat → Tok
  vW : Value
  vD : Value
  vE : Value
  vQ : Value
  vB : Value
  vH : Value
  vT : Value
  vS : Value
  vN : Value
  vM : Value
abbrev hvEs (w : World) (r : HV) : List DictEntry :=
  [en w (Str.ofString "_CountMinSketch__width") (r.kt 0) r.vW, en w (Str.ofString "_CountMinSketch__depth") (r.kt 1) r.vD, en w (Str.ofString "_CountMinSketch__elements_added") (r.kt 2) r.vE, en w (Str.ofString "_CountMinSketch__query_method") (r.kt 3) r.vQ, en w (Str.ofString "_bins") (r.kt 4) r.vB,
   en w (Str.ofString "_hash_function") (r.kt 5) r.vH, en w (Str.ofString "_HeavyHitters__top_x") (r.kt 6) r.vT, en w (Str.ofString "_HeavyHitters__top_x_size") (r.kt 7) r.vS, en w (Str.ofString "_HeavyHitters__num_hitters") (r.kt 8) r.vN, en w (Str.ofString "_HeavyHitters__smallest") (r.kt 9) r.vM]
abbrev hvObj (w : World) (r : HV) : Obj := dictOf (hvEs w r) 10
/-- the sketch stands at x, its dict at dx -/
structure HIn (w : World) (h : Heap) (x dx : Addr) (r : HV) : Prop where
  at_ : h.get? x = some (instObj 321 dx)
  dict : h.get? dx = some (hvObj w r)
theorem HIn.inst {w : World} {h : Heap} {x dx : Addr} {r : HV} (H : HIn w h x dx r) : W.InstAt h x (instObj 321 dx) 321 (some (hvObj w r)) := ⟨H.at_, rfl, rfl, H.dict⟩

theorem HIn.keeps {w : World} {h h' : Heap} {x dx : Addr} {r : HV} (H : HIn w h x dx r) (k : ∀ b o, h.get? b = some o → h'.get? b = some o) : HIn w h' x dx r := ⟨k _ _ H.at_, k _ _ H.dict⟩
/-- all objects but those named stay -/
def Kp (W : List Addr) (h h' : Heap) : Prop := ∀ b o, h.get? b = some o → b ∉ W → h'.get? b = some o
theorem Kp.refl {W : List Addr} {h : Heap} : Kp W h h := fun _ _ e _ => e
theorem Kp.all {h h' : Heap} (a : Kp [] h h') : ∀ b o, h.get? b = some o → h'.get? b = some o := fun b o e => a b o e fun q => nomatch q
theorem Kp.trans {W : List Addr} {h h' h'' : Heap} (a : Kp W h h') (b : Kp W h' h'') : Kp W h h'' := fun x o e n => b x o (a x o e n) n
theorem Kp.mono {W W' : List Addr} {h h' : Heap} (a : Kp W h h') (s : ∀ x ∈ W, x ∈ W') : Kp W' h h' := fun x o e n => a x o e fun q => n (s x q)

section
variable {w : World} {A : Around} {s : Shared} {R : Result → Shared → Prop} {name qual : Str} {params : Arguments} {body : List Stmt} {scope : Scope} {cl : List (Str × Addr)} {dV kV doc pm cdv ct : Value} {an : Option Addr} {fo : Obj} {f : Addr} {args : Args} {binds : List (Str × Value)}
/-- a call of a def without cells of its own: the frame's base is the heap without the objects of W, which stand in its ledger -/
theorem call_fn (W : List (Addr × Obj)) (hW : ∀ p ∈ W, s.heap.get? p.1 = some p.2) (hlim : s.heap.NoLimit)
    (ho : s.heap.get? f = some fo) (hd : fo.data = .func (fnX name qual params body scope cl dV kV doc pm an cdv ct)) (hcd : s.heap.CodeRec cdv qual) (hroom : A.depth < recursionLimit)
    (hbind : BindsTo s (fnX name qual params body scope cl dV kV doc pm an cdv ct) args binds) (hloc : ∀ y ∈ binds, scope.names.lookup y.1 = some .local)
    (h : ∀ g L h₁, Fr g L h₁ (fun y => binds.reverse.lookup y) → News g L h₁ W → Kp (W.map (·.1)) s.heap g → (∀ p ∈ W, p.1 < L) → L = s.heap.objs.size →
      wpAny (model PG w) (A.deeper (envX qual scope L f cdv cl)) (execs body (envX qual scope L f cdv cl))
        (fun fl s' => R (.ok (.ret (match fl with | .ret v => v | _ => .none))) s') (fun _ _ => False) { s with heap := h₁, toks := s.toks + binds.length })
    (hcell : ∀ x ∈ scope.names, x.2 ≠ .cell) (hco : scope.isCoroutine = false := by rfl) (hgen : scope.isGenerator = false := by rfl) (hk : scope.kind = .function := by rfl) : codeAny (model PG w) A (.call (.ref f) args) R s := by
  refine codeAny_call_def (fd := fnX name qual params body scope cl dV kV doc pm an cdv ct) (body := body) (binds := binds) hroom ho hd hlim hcd rfl hbind hcell hloc (fun h₁ hns hk₁ => ?_) hco hgen hk
  refine wpAny_mono (h (hideAll s.heap (W.map (·.1))) _ h₁ ⟨hns, fun b o e => hk₁ b o (of_hideAll _ e), Nat.le_of_eq (hideAll_size _ _)⟩ (fun p hp => ?_) (fun b o e n => hideAll_get _ e n) (fun p hp => Heap.lt_size (hW p hp)) rfl) (fun _ _ q => q) fun _ _ q => q.elim
  exact ⟨hk₁ _ _ (hW p hp), Nat.ne_of_lt (Heap.lt_size (hW p hp)), hideAll_none _ (List.mem_map_of_mem hp)⟩

theorem call_K (W : List (Addr × Obj)) (hW : ∀ p ∈ W, s.heap.get? p.1 = some p.2) (B : Bs w s.heap) {oc : Value} {od : Option Addr} {osl : Array (Option Value)}
    (ho : (KK w).lookup f = some ⟨oc, od, .func (fnX name qual params body scope cl dV kV doc pm an cdv ct), osl⟩) (hcd : codeIn (KK w) cdv qual = true) (hroom : A.depth < recursionLimit)
    (hbind : BindsTo s (fnX name qual params body scope cl dV kV doc pm an cdv ct) args binds) (hloc : ∀ y ∈ binds, scope.names.lookup y.1 = some .local)
    (h : ∀ g L h₁, Fr g L h₁ (fun y => binds.reverse.lookup y) → News g L h₁ W → Kp (W.map (·.1)) s.heap g → (∀ p ∈ W, p.1 < L) → L = s.heap.objs.size →
      wpAny (model PG w) (A.deeper (envX qual scope L f cdv cl)) (execs body (envX qual scope L f cdv cl))
        (fun fl s' => R (.ok (.ret (match fl with | .ret v => v | _ => .none))) s') (fun _ _ => False) { s with heap := h₁, toks := s.toks + binds.length })
    (hcell : ∀ x ∈ scope.names, x.2 ≠ .cell) (hco : scope.isCoroutine = false := by rfl) (hgen : scope.isGenerator = false := by rfl) (hk : scope.kind = .function := by rfl) : codeAny (model PG w) A (.call (.ref f) args) R s :=
  call_fn W hW B.nolimit (B.X _ _ ho) rfl (codeRec_of B.X hcd) hroom hbind hloc h hcell hco hgen hk
end
end Mine
namespace Mine
theorem none_of_up {h h' : Heap} {l : Addr} (up : ∀ b o, h.get? b = some o → h'.get? b = some o) (e : h'.get? l = none) : h.get? l = none := by
  cases q : h.get? l with
  | none => rfl
  | some o => rw [up _ _ q] at e; cases e
theorem iteTb {p q : Prop} (h : p) : if true = true then p else q := h
theorem iteFb {p q : Prop} (h : q) : if false = true then p else q := h
end Mine
namespace Mine
section
variable {w : World} {A : Around} {s : Shared} {R : Result → Shared → Prop} {name qual : Str} {params : Arguments} {body : List Stmt} {scope : Scope} {dV kV doc pm cdv ct : Value} {an : Option Addr} {fo : Obj} {f : Addr} {args : Args} {binds : List (Str × Value)}
/-- a call of a def with cells of its own -/
theorem call_cells (W : List (Addr × Obj)) (hW : ∀ p ∈ W, s.heap.get? p.1 = some p.2) (B : Bs w s.heap) {oc : Value} {od : Option Addr} {osl : Array (Option Value)}
    (ho : (KK w).lookup f = some ⟨oc, od, .func (fnX name qual params body scope [] dV kV doc pm an cdv ct), osl⟩) (hcd : codeIn (KK w) cdv qual = true) (hroom : A.depth < recursionLimit)
    (hbind : BindsTo s (fnX name qual params body scope [] dV kV doc pm an cdv ct) args binds)
    (hkind : (binds.all fun y => scope.names.lookup y.1 == some .local || scope.names.lookup y.1 == some .cell) = true)
    (hnd : ((cellsFrom 0 scope.names []).map (·.1)).Nodup)
    (h : ∀ g L h₁ tk cells, Fr g L h₁ (bindL (envX qual scope L f cdv (cellsFrom (L + 1) scope.names [])).kindOf binds fun _ => none) → News g L h₁ (cells ++ W) →
      CellsAre (bindC (envX qual scope L f cdv (cellsFrom (L + 1) scope.names [])).kindOf binds fun _ => none) (cellsFrom (L + 1) scope.names []) cells → Kp (W.map (·.1)) s.heap g → (∀ p ∈ W, p.1 < L) → L = s.heap.objs.size →
      wpAny (model PG w) (A.deeper (envX qual scope L f cdv (cellsFrom (L + 1) scope.names []))) (execs body (envX qual scope L f cdv (cellsFrom (L + 1) scope.names [])))
        (fun fl s' => R (.ok (.ret (match fl with | .ret v => v | _ => .none))) s') (fun _ _ => False) { s with heap := h₁, toks := tk })
    (hco : scope.isCoroutine = false := by rfl) (hgen : scope.isGenerator = false := by rfl) (hk : scope.kind = .function := by rfl) : codeAny (model PG w) A (.call (.ref f) args) R s := by
  refine codeAny_call_function hroom (B.X _ _ ho) rfl hco hgen rfl (codeRec_of B.X hcd) (hbind _ _ _ _ ?_)
  refine wpAny_newFunctionEnv_cells hk (PySem.W.kindsX hkind _) fun env' he s' x => ?_
  subst he
  refine ⟨B.nolimit.keeps x.toInCall.keep, codeAny_func ?_⟩
  obtain ⟨h₁, tk, rfl, _⟩ := x.done
  have hk₁ := x.toInCall.keep
  obtain ⟨cells, NC, Y⟩ := Cl.news (h₀ := s.heap) (Nat.le_refl _) fun n c hm => ⟨x.cell n c (lookup_of_mem_nodup (cellsFrom_names scope.names 0 (s.heap.objs.size + 1) [] [] rfl ▸ hnd) hm), x.above n c hm⟩
  refine wpAny_mono (h (hideAll s.heap (W.map (·.1))) _ h₁ tk cells ⟨x.toInCall.ns, fun b o e => hk₁ b o (of_hideAll _ e), Nat.le_of_eq (hideAll_size _ _)⟩ (fun p hp => ?_) Y (fun b o e n => hideAll_get _ e n) (fun p hp => Heap.lt_size (hW p hp)) rfl) (fun _ _ q => q) fun _ _ q => q.elim
  rcases List.mem_append.mp hp with hp | hp
  · refine ⟨(NC p hp).1, (NC p hp).2.1, ?_⟩
    cases q : (hideAll s.heap (W.map (·.1))).get? p.1 with
    | none => rfl
    | some o => have := of_hideAll _ q; rw [(NC p hp).2.2] at this; cases this
  · exact ⟨hk₁ _ _ (hW p hp), Nat.ne_of_lt (Heap.lt_size (hW p hp)), hideAll_none _ (List.mem_map_of_mem hp)⟩
end
end Mine
end

-- C2
section
open PySem PySem.W PyProof.Rows PySem.Calls PyProof.V
set_option Elab.async false
set_option maxRecDepth 100000
set_option linter.unusedVariables false
namespace Mine
section
variable {w : World} {A : Around} {s : Shared} {R : Result → Shared → Prop} {name qual : Str} {params : Arguments} {body : List Stmt} {scope : Scope} {dV kV doc pm cdv ct : Value} {an : Option Addr} {fo : Obj} {f cc : Addr} {args : Args} {binds : List (Str × Value)}
/-- a call of a def that closes over __class__ -/
theorem call_KS (W : List (Addr × Obj)) (hW : ∀ p ∈ W, s.heap.get? p.1 = some p.2) (B : Bs w s.heap) {oc : Value} {od : Option Addr} {osl : Array (Option Value)}
    (ho : (KK w).lookup f = some ⟨oc, od, .func (ksFn name qual params body scope dV kV doc pm an cdv ct cc), osl⟩) (hcd : codeIn (KK w) cdv qual = true) (hroom : A.depth < recursionLimit)
    (hbind : BindsTo s (ksFn name qual params body scope dV kV doc pm an cdv ct cc) args binds) (hloc : ∀ y ∈ binds, scope.names.lookup y.1 = some .local)
    (h : ∀ g L h₁, Fr g L h₁ (fun y => binds.reverse.lookup y) → News g L h₁ W → Kp (W.map (·.1)) s.heap g → (∀ p ∈ W, p.1 < L) → L = s.heap.objs.size →
      _root_.PySem.wpAt (model PG w) (A.deeper (ksEnv qual scope L f cdv cc)) (.func body (ksEnv qual scope L f cdv cc)) (execs body (ksEnv qual scope L f cdv cc))
        (fun fl s' => R (.ok (.ret (match fl with | .ret v => v | _ => .none))) s') (fun _ _ => False) { s with heap := h₁, toks := s.toks + binds.length })
    (hcell : ∀ x ∈ scope.names, x.2 ≠ .cell) (hco : scope.isCoroutine = false := by rfl) (hgen : scope.isGenerator = false := by rfl) (hk : scope.kind = .function := by rfl) : codeAny (model PG w) A (.call (.ref f) args) R s := by
  refine ks_codeAny_call_defAt (fd := ksFn name qual params body scope dV kV doc pm an cdv ct cc) (body := body) (binds := binds) hroom (B.X _ _ ho) rfl B.nolimit (codeRec_of B.X hcd) rfl hbind hcell hloc (fun h₁ hns hk₁ => ?_) hco hgen hk
  refine ks_wpAt_mono (h (hideAll s.heap (W.map (·.1))) _ h₁ ⟨hns, fun b o e => hk₁ b o (of_hideAll _ e), Nat.le_of_eq (hideAll_size _ _)⟩ (fun p hp => ?_) (fun b o e n => hideAll_get _ e n) (fun p hp => Heap.lt_size (hW p hp)) rfl) (fun _ _ q => q) fun _ _ q => q.elim
  exact ⟨hk₁ _ _ (hW p hp), Nat.ne_of_lt (Heap.lt_size (hW p hp)), hideAll_none _ (List.mem_map_of_mem hp)⟩
end
end Mine
end

-- F1
section
open PySem PySem.W PyProof.Rows PySem.Calls PyProof.V
set_option Elab.async false
set_option maxRecDepth 100000
namespace Mine
theorem hh_has (w : World) : hasDictIn (KK w) 321 = true := by kernel_rfl
theorem hh_set (w : World) : findIn (KK w) (.ref 321) "__setattr__" = some (some (.builtin "object.__setattr__")) := by kernel_rfl
theorem hh_over (w : World) : plainOver (KK w) 321 = true := by kernel_rfl
section
variable {w : World} {A : Around} {E : Value → Shared → Prop} {s : Shared} {h₀ : Heap} {L x dx : Addr} {m : Str → Option Value} {r : HV} {Q : Value → Shared → Prop} {b : Bool} {news news' : List (Addr × Obj)}
/-- a field is read -/
theorem f_any {name : Str} {v : Value} (hg : plainGet (KK w) 321 name = true) (ha : findIn (KK w) (.ref 321) name = some none) (hl : getL name (hvEs w r) = some (some v)) (B : Bs w s.heap) (H : HIn w s.heap x dx r) (hv : handedIn v = true) (h : Q v { s with toks := s.toks + 1 }) :
    wpAny (model PG w) A (getAttr (.ref x) name b) Q E s :=
  get_value B.X H.inst (plainGet_of hg).1 (findObj_own (hh_has w) ha (by rfl) hl) hv h
/-- a field is stored -/
theorem s_any {name : Str} {v : Value} {r' : HV} {Q : Unit → Shared → Prop} (ht : takerIn (KK w) 321 name = some none) (hl : (getL name (hvEs w r)).isSome = true)
    (e : (putL name (PyData.keyHash w.params name) (.str name (s.toks + 1)) v (hvEs w r), putN name (hvEs w r) 10) = (hvEs w r', 10))
    (F : Fr h₀ L s.heap m) (B : Bs w h₀) (N : News h₀ L s.heap news) (H : HIn w s.heap x dx r) (U : Upd dx (hvObj w r) (hvObj w r') news news')
    (h : ∀ h', Fr h₀ L h' m → News h₀ L h' news' → Q () { s with heap := h', toks := s.toks + 2 }) : wpAny (model PG w) A (setAttr (.ref x) name v) Q E s :=
  set_dict F B.X N H.inst rfl (hh_set w) (hh_over w) ht (hh_has w) hl e U (Nat.le_of_ble_eq_true rfl) h
/-- a method is looked up -/
theorem m_any {name : Str} {f : Addr} {pl : Sem Bool} {Q : Value × List Value → Shared → Prop} (hg : plainGet (KK w) 321 name = true) (hf : findIn (KK w) (.ref 321) name = some (some (.ref f))) (ht : isFn (KK w) (.ref f) = true) (hl : getL name (hvEs w r) = some none)
    (B : Bs w s.heap) (H : HIn w s.heap x dx r) (h : Q (.ref f, [.ref x]) s) : wpAny (model PG w) A (getMethod (.ref x) name pl) Q E s :=
  method_fn B.X H.inst (plainGet_of hg).1 (plainGet_of hg).2 hf (beq_iff_eq.mp ht) (by show (lookIn name (dictOf (hvEs w r) 10)).map _ = _; rw [lookIn_dict, hl]; rfl) h
/-- a field that holds what is called -/
theorem o_any {name : Str} {v : Value} {pl : Sem Bool} {Q : Value × List Value → Shared → Prop} (hg : plainGet (KK w) 321 name = true) (ha : findIn (KK w) (.ref 321) name = some none) (hl : getL name (hvEs w r) = some (some v))
    (B : Bs w s.heap) (H : HIn w s.heap x dx r) (hv : handedIn v = true) (h : Q (v, []) { s with toks := s.toks + 1 }) : wpAny (model PG w) A (getMethod (.ref x) name pl) Q E s :=
  method_usual B.X H.inst (plainGet_of hg).1 (plainGet_of hg).2 ha rfl (f_any hg ha hl B H hv h)
theorem g_W (w : World) : plainGet (KK w) 321 (Str.ofString "_CountMinSketch__width") = true := by kernel_rfl
theorem a_W (w : World) : findIn (KK w) (.ref 321) (Str.ofString "_CountMinSketch__width") = some none := by kernel_rfl
theorem l_W (w : World) (r : HV) : getL (Str.ofString "_CountMinSketch__width") (hvEs w r) = some (some r.vW) := by kernel_rfl
theorem f_W {v : Value} (B : Bs w s.heap) (H : HIn w s.heap x dx r) (e : r.vW = v) (h : Q v { s with toks := s.toks + 1 }) (hv : handedIn v = true := by rfl) : wpAny (model PG w) A (getAttr (.ref x) (Str.ofString "_CountMinSketch__width") b) Q E s := f_any (g_W w) (a_W w) (e ▸ l_W w r) B H hv h
theorem g_D (w : World) : plainGet (KK w) 321 (Str.ofString "_CountMinSketch__depth") = true := by kernel_rfl
theorem a_D (w : World) : findIn (KK w) (.ref 321) (Str.ofString "_CountMinSketch__depth") = some none := by kernel_rfl
theorem l_D (w : World) (r : HV) : getL (Str.ofString "_CountMinSketch__depth") (hvEs w r) = some (some r.vD) := by kernel_rfl
theorem f_D {v : Value} (B : Bs w s.heap) (H : HIn w s.heap x dx r) (e : r.vD = v) (h : Q v { s with toks := s.toks + 1 }) (hv : handedIn v = true := by rfl) : wpAny (model PG w) A (getAttr (.ref x) (Str.ofString "_CountMinSketch__depth") b) Q E s := f_any (g_D w) (a_D w) (e ▸ l_D w r) B H hv h
theorem g_E (w : World) : plainGet (KK w) 321 (Str.ofString "_CountMinSketch__elements_added") = true := by kernel_rfl
theorem a_E (w : World) : findIn (KK w) (.ref 321) (Str.ofString "_CountMinSketch__elements_added") = some none := by kernel_rfl
theorem l_E (w : World) (r : HV) : getL (Str.ofString "_CountMinSketch__elements_added") (hvEs w r) = some (some r.vE) := by kernel_rfl
theorem f_E {v : Value} (B : Bs w s.heap) (H : HIn w s.heap x dx r) (e : r.vE = v) (h : Q v { s with toks := s.toks + 1 }) (hv : handedIn v = true := by rfl) : wpAny (model PG w) A (getAttr (.ref x) (Str.ofString "_CountMinSketch__elements_added") b) Q E s := f_any (g_E w) (a_E w) (e ▸ l_E w r) B H hv h
theorem g_Q (w : World) : plainGet (KK w) 321 (Str.ofString "_CountMinSketch__query_method") = true := by kernel_rfl
theorem a_Q (w : World) : findIn (KK w) (.ref 321) (Str.ofString "_CountMinSketch__query_method") = some none := by kernel_rfl
theorem l_Q (w : World) (r : HV) : getL (Str.ofString "_CountMinSketch__query_method") (hvEs w r) = some (some r.vQ) := by kernel_rfl
theorem f_Q {v : Value} (B : Bs w s.heap) (H : HIn w s.heap x dx r) (e : r.vQ = v) (h : Q v { s with toks := s.toks + 1 }) (hv : handedIn v = true := by rfl) : wpAny (model PG w) A (getAttr (.ref x) (Str.ofString "_CountMinSketch__query_method") b) Q E s := f_any (g_Q w) (a_Q w) (e ▸ l_Q w r) B H hv h
theorem g_B (w : World) : plainGet (KK w) 321 (Str.ofString "_bins") = true := by kernel_rfl
theorem a_B (w : World) : findIn (KK w) (.ref 321) (Str.ofString "_bins") = some none := by kernel_rfl
theorem l_B (w : World) (r : HV) : getL (Str.ofString "_bins") (hvEs w r) = some (some r.vB) := by kernel_rfl
theorem f_B {v : Value} (B : Bs w s.heap) (H : HIn w s.heap x dx r) (e : r.vB = v) (h : Q v { s with toks := s.toks + 1 }) (hv : handedIn v = true := by rfl) : wpAny (model PG w) A (getAttr (.ref x) (Str.ofString "_bins") b) Q E s := f_any (g_B w) (a_B w) (e ▸ l_B w r) B H hv h
theorem g_H (w : World) : plainGet (KK w) 321 (Str.ofString "_hash_function") = true := by kernel_rfl
theorem a_H (w : World) : findIn (KK w) (.ref 321) (Str.ofString "_hash_function") = some none := by kernel_rfl
theorem l_H (w : World) (r : HV) : getL (Str.ofString "_hash_function") (hvEs w r) = some (some r.vH) := by kernel_rfl
theorem f_H {v : Value} (B : Bs w s.heap) (H : HIn w s.heap x dx r) (e : r.vH = v) (h : Q v { s with toks := s.toks + 1 }) (hv : handedIn v = true := by rfl) : wpAny (model PG w) A (getAttr (.ref x) (Str.ofString "_hash_function") b) Q E s := f_any (g_H w) (a_H w) (e ▸ l_H w r) B H hv h
theorem g_T (w : World) : plainGet (KK w) 321 (Str.ofString "_HeavyHitters__top_x") = true := by kernel_rfl
theorem a_T (w : World) : findIn (KK w) (.ref 321) (Str.ofString "_HeavyHitters__top_x") = some none := by kernel_rfl
theorem l_T (w : World) (r : HV) : getL (Str.ofString "_HeavyHitters__top_x") (hvEs w r) = some (some r.vT) := by kernel_rfl
theorem f_T {v : Value} (B : Bs w s.heap) (H : HIn w s.heap x dx r) (e : r.vT = v) (h : Q v { s with toks := s.toks + 1 }) (hv : handedIn v = true := by rfl) : wpAny (model PG w) A (getAttr (.ref x) (Str.ofString "_HeavyHitters__top_x") b) Q E s := f_any (g_T w) (a_T w) (e ▸ l_T w r) B H hv h
theorem g_S (w : World) : plainGet (KK w) 321 (Str.ofString "_HeavyHitters__top_x_size") = true := by kernel_rfl
theorem a_S (w : World) : findIn (KK w) (.ref 321) (Str.ofString "_HeavyHitters__top_x_size") = some none := by kernel_rfl
theorem l_S (w : World) (r : HV) : getL (Str.ofString "_HeavyHitters__top_x_size") (hvEs w r) = some (some r.vS) := by kernel_rfl
theorem f_S {v : Value} (B : Bs w s.heap) (H : HIn w s.heap x dx r) (e : r.vS = v) (h : Q v { s with toks := s.toks + 1 }) (hv : handedIn v = true := by rfl) : wpAny (model PG w) A (getAttr (.ref x) (Str.ofString "_HeavyHitters__top_x_size") b) Q E s := f_any (g_S w) (a_S w) (e ▸ l_S w r) B H hv h
theorem g_N (w : World) : plainGet (KK w) 321 (Str.ofString "_HeavyHitters__num_hitters") = true := by kernel_rfl
theorem a_N (w : World) : findIn (KK w) (.ref 321) (Str.ofString "_HeavyHitters__num_hitters") = some none := by kernel_rfl
theorem l_N (w : World) (r : HV) : getL (Str.ofString "_HeavyHitters__num_hitters") (hvEs w r) = some (some r.vN) := by kernel_rfl
theorem f_N {v : Value} (B : Bs w s.heap) (H : HIn w s.heap x dx r) (e : r.vN = v) (h : Q v { s with toks := s.toks + 1 }) (hv : handedIn v = true := by rfl) : wpAny (model PG w) A (getAttr (.ref x) (Str.ofString "_HeavyHitters__num_hitters") b) Q E s := f_any (g_N w) (a_N w) (e ▸ l_N w r) B H hv h
theorem g_M (w : World) : plainGet (KK w) 321 (Str.ofString "_HeavyHitters__smallest") = true := by kernel_rfl
theorem a_M (w : World) : findIn (KK w) (.ref 321) (Str.ofString "_HeavyHitters__smallest") = some none := by kernel_rfl
theorem l_M (w : World) (r : HV) : getL (Str.ofString "_HeavyHitters__smallest") (hvEs w r) = some (some r.vM) := by kernel_rfl
theorem f_M {v : Value} (B : Bs w s.heap) (H : HIn w s.heap x dx r) (e : r.vM = v) (h : Q v { s with toks := s.toks + 1 }) (hv : handedIn v = true := by rfl) : wpAny (model PG w) A (getAttr (.ref x) (Str.ofString "_HeavyHitters__smallest") b) Q E s := f_any (g_M w) (a_M w) (e ▸ l_M w r) B H hv h
theorem s_E {v : Value} {Q : Unit → Shared → Prop} (F : Fr h₀ L s.heap m) (B : Bs w h₀) (N : News h₀ L s.heap news) (H : HIn w s.heap x dx r) (U : Upd dx (hvObj w r) (hvObj w { r with vE := v }) news news')
    (h : ∀ h', Fr h₀ L h' m → News h₀ L h' news' → Q () { s with heap := h', toks := s.toks + 2 }) : wpAny (model PG w) A (setAttr (.ref x) (Str.ofString "_CountMinSketch__elements_added") v) Q E s :=
  s_any (by kernel_rfl) (by kernel_rfl) (by kernel_rfl) F B N H U h
theorem s_B {v : Value} {Q : Unit → Shared → Prop} (F : Fr h₀ L s.heap m) (B : Bs w h₀) (N : News h₀ L s.heap news) (H : HIn w s.heap x dx r) (U : Upd dx (hvObj w r) (hvObj w { r with vB := v }) news news')
    (h : ∀ h', Fr h₀ L h' m → News h₀ L h' news' → Q () { s with heap := h', toks := s.toks + 2 }) : wpAny (model PG w) A (setAttr (.ref x) (Str.ofString "_bins") v) Q E s :=
  s_any (by kernel_rfl) (by kernel_rfl) (by kernel_rfl) F B N H U h
theorem s_T {v : Value} {Q : Unit → Shared → Prop} (F : Fr h₀ L s.heap m) (B : Bs w h₀) (N : News h₀ L s.heap news) (H : HIn w s.heap x dx r) (U : Upd dx (hvObj w r) (hvObj w { r with vT := v }) news news')
    (h : ∀ h', Fr h₀ L h' m → News h₀ L h' news' → Q () { s with heap := h', toks := s.toks + 2 }) : wpAny (model PG w) A (setAttr (.ref x) (Str.ofString "_HeavyHitters__top_x") v) Q E s :=
  s_any (by kernel_rfl) (by kernel_rfl) (by kernel_rfl) F B N H U h
theorem s_S {v : Value} {Q : Unit → Shared → Prop} (F : Fr h₀ L s.heap m) (B : Bs w h₀) (N : News h₀ L s.heap news) (H : HIn w s.heap x dx r) (U : Upd dx (hvObj w r) (hvObj w { r with vS := v }) news news')
    (h : ∀ h', Fr h₀ L h' m → News h₀ L h' news' → Q () { s with heap := h', toks := s.toks + 2 }) : wpAny (model PG w) A (setAttr (.ref x) (Str.ofString "_HeavyHitters__top_x_size") v) Q E s :=
  s_any (by kernel_rfl) (by kernel_rfl) (by kernel_rfl) F B N H U h
theorem s_N {v : Value} {Q : Unit → Shared → Prop} (F : Fr h₀ L s.heap m) (B : Bs w h₀) (N : News h₀ L s.heap news) (H : HIn w s.heap x dx r) (U : Upd dx (hvObj w r) (hvObj w { r with vN := v }) news news')
    (h : ∀ h', Fr h₀ L h' m → News h₀ L h' news' → Q () { s with heap := h', toks := s.toks + 2 }) : wpAny (model PG w) A (setAttr (.ref x) (Str.ofString "_HeavyHitters__num_hitters") v) Q E s :=
  s_any (by kernel_rfl) (by kernel_rfl) (by kernel_rfl) F B N H U h
theorem s_M {v : Value} {Q : Unit → Shared → Prop} (F : Fr h₀ L s.heap m) (B : Bs w h₀) (N : News h₀ L s.heap news) (H : HIn w s.heap x dx r) (U : Upd dx (hvObj w r) (hvObj w { r with vM := v }) news news')
    (h : ∀ h', Fr h₀ L h' m → News h₀ L h' news' → Q () { s with heap := h', toks := s.toks + 2 }) : wpAny (model PG w) A (setAttr (.ref x) (Str.ofString "_HeavyHitters__smallest") v) Q E s :=
  s_any (by kernel_rfl) (by kernel_rfl) (by kernel_rfl) F B N H U h
theorem o_H {v : Value} {pl : Sem Bool} {Q : Value × List Value → Shared → Prop} (B : Bs w s.heap) (H : HIn w s.heap x dx r) (e : r.vH = v) (h : Q (v, []) { s with toks := s.toks + 1 }) (hv : handedIn v = true := by rfl) : wpAny (model PG w) A (getMethod (.ref x) (Str.ofString "_hash_function") pl) Q E s := o_any (g_H w) (a_H w) (e ▸ l_H w r) B H hv h
theorem o_Q {v : Value} {pl : Sem Bool} {Q : Value × List Value → Shared → Prop} (B : Bs w s.heap) (H : HIn w s.heap x dx r) (e : r.vQ = v) (h : Q (v, []) { s with toks := s.toks + 1 }) (hv : handedIn v = true := by rfl) : wpAny (model PG w) A (getMethod (.ref x) (Str.ofString "_CountMinSketch__query_method") pl) Q E s := o_any (g_Q w) (a_Q w) (e ▸ l_Q w r) B H hv h
theorem m_hashes {pl : Sem Bool} {Q : Value × List Value → Shared → Prop} (B : Bs w s.heap) (H : HIn w s.heap x dx r) (h : Q (.ref 165, [.ref x]) s) : wpAny (model PG w) A (getMethod (.ref x) (Str.ofString "hashes") pl) Q E s :=
  m_any (by kernel_rfl) (by kernel_rfl) (by kernel_rfl) (by kernel_rfl) B H h
theorem m_check {pl : Sem Bool} {Q : Value × List Value → Shared → Prop} (B : Bs w s.heap) (H : HIn w s.heap x dx r) (h : Q (.ref 202, [.ref x]) s) : wpAny (model PG w) A (getMethod (.ref x) (Str.ofString "check") pl) Q E s :=
  m_any (by kernel_rfl) (by kernel_rfl) (by kernel_rfl) (by kernel_rfl) B H h
theorem m_check_alt {pl : Sem Bool} {Q : Value × List Value → Shared → Prop} (B : Bs w s.heap) (H : HIn w s.heap x dx r) (h : Q (.ref 207, [.ref x]) s) : wpAny (model PG w) A (getMethod (.ref x) (Str.ofString "check_alt") pl) Q E s :=
  m_any (by kernel_rfl) (by kernel_rfl) (by kernel_rfl) (by kernel_rfl) B H h
theorem m_add {pl : Sem Bool} {Q : Value × List Value → Shared → Prop} (B : Bs w s.heap) (H : HIn w s.heap x dx r) (h : Q (.ref 286, [.ref x]) s) : wpAny (model PG w) A (getMethod (.ref x) (Str.ofString "add") pl) Q E s :=
  m_any (by kernel_rfl) (by kernel_rfl) (by kernel_rfl) (by kernel_rfl) B H h
theorem m_add_alt {pl : Sem Bool} {Q : Value × List Value → Shared → Prop} (B : Bs w s.heap) (H : HIn w s.heap x dx r) (h : Q (.ref 295, [.ref x]) s) : wpAny (model PG w) A (getMethod (.ref x) (Str.ofString "add_alt") pl) Q E s :=
  m_any (by kernel_rfl) (by kernel_rfl) (by kernel_rfl) (by kernel_rfl) B H h
theorem m_clear {pl : Sem Bool} {Q : Value × List Value → Shared → Prop} (B : Bs w s.heap) (H : HIn w s.heap x dx r) (h : Q (.ref 311, [.ref x]) s) : wpAny (model PG w) A (getMethod (.ref x) (Str.ofString "clear") pl) Q E s :=
  m_any (by kernel_rfl) (by kernel_rfl) (by kernel_rfl) (by kernel_rfl) B H h
/-- a property that hands back a field -/
theorem p_call {f : Addr} {fld : Str} {v : Value} {R : Result → Shared → Prop} {name qual : Str} {params : Arguments} {scope : Scope} {dV kV doc pm cdv ct : Value} {an : Option Addr} {oc : Value} {od : Option Addr} {osl : Array (Option Value)} {px pos rpos : Pos}
    (ho : (KK w).lookup f = some ⟨oc, od, .func (fnX name qual params [.Return (some (.Attribute (.Name (Str.ofString "self") px) fld pos)) rpos] scope [] dV kV doc pm an cdv ct), osl⟩) (hcd : codeIn (KK w) cdv qual = true)
    (hbind : BindsTo s (fnX name qual params [.Return (some (.Attribute (.Name (Str.ofString "self") px) fld pos)) rpos] scope [] dV kV doc pm an cdv ct) ⟨[.ref x], []⟩ [(Str.ofString "self", .ref x)]) (hsc : scope.names.lookup (Str.ofString "self") = some .local) (hcell : ∀ x ∈ scope.names, x.2 ≠ .cell)
    (hg : plainGet (KK w) 321 fld = true) (ha : findIn (KK w) (.ref 321) fld = some none) (hl : getL fld (hvEs w r) = some (some v)) (B : Bs w s.heap) (H : HIn w s.heap x dx r) (hv : handedIn v = true) (hroom : A.depth < 900)
    (hco : scope.isCoroutine = false) (hgen : scope.isGenerator = false) (hk : scope.kind = .function)
    (he : ∀ env, eval (.Attribute (.Name (Str.ofString "self") px) fld pos) env = (do let o ← eval (.Name (Str.ofString "self") px) env; standAt (Pos.atName pos); let r ← holding [o] (getAttr o fld true); letTemporaryGo (.Name (Str.ofString "self") px) o r; pure r))
    (h : ∀ h' tk', Kp [] s.heap h' → R (.ok (.ret v)) { s with heap := h', toks := tk' }) : codeAny (model PG w) A (.call (.ref f) ⟨[.ref x], []⟩) R s := by
  refine call_K [] (fun _ h => nomatch h) B ho hcd (by show A.depth < 1000; omega) hbind (fun y hy => by rw [List.mem_singleton.mp hy]; exact hsc) ?_ hcell hco hgen hk
  intro g L h₁ F₁ N₁ K₁ _ _
  have up : ∀ b o, s.heap.get? b = some o → h₁.get? b = some o := fun b o e => F₁.keep _ _ (K₁ _ _ e (by simp))
  refine wpAny_execs_cons (wpAny_Return_some (Attribute_Name_ (nameX_L F₁ (v := .ref x) (by rfl) ?_ hk hsc (by decide)) (he _)))
  exact f_any hg ha hl (B.keeps up) (H.keeps up) hv (h _ _ fun b o e _ => up b o e)
theorem p_width {v : Value} (B : Bs w s.heap) (H : HIn w s.heap x dx r) (hroom : A.depth < 890) (e : r.vW = v)
    (h : ∀ h' tk', Kp [] s.heap h' → Q v { s with heap := h', toks := tk' }) (hv : handedIn v = true := by rfl) : wpAny (model PG w) A (getAttr (.ref x) (Str.ofString "width") b) Q E s := by
  have hg : plainGet (KK w) 321 (Str.ofString "width") = true := by kernel_rfl
  refine get_bind B.X H.inst (plainGet_of hg).1 (findObj_data (a := .ref 117) (g := .builtin "property.__get__") (by obtain ⟨cd, hc, _⟩ := any_some (hh_has w); rw [hc]; rfl) (by kernel_rfl) (by kernel_rfl) (by kernel_rfl)) (plainGet_of hg).2 (wpAny_call (prop_get (s := { s with toks := s.toks + 1 }) (fget := 116) (rest := _) B.X (by rfl) ?_))
  refine p_call (s := { s with toks := s.toks + 1 }) (by rfl) (by rfl) (.of_eq (by rfl)) (by rfl) (by decide) (g_W w) (a_W w) (e ▸ l_W w r) B H hv (by show A.depth < 900; omega) (by rfl) (by rfl) (by rfl) (fun _ => by rfl) ?_
  intro h' tk' K
  show wpAny _ _ (handedOut v) _ _ _
  rw [handedOut_of hv]
  exact wpAny_pure (h h' tk' K)
theorem p_depth {v : Value} (B : Bs w s.heap) (H : HIn w s.heap x dx r) (hroom : A.depth < 890) (e : r.vD = v)
    (h : ∀ h' tk', Kp [] s.heap h' → Q v { s with heap := h', toks := tk' }) (hv : handedIn v = true := by rfl) : wpAny (model PG w) A (getAttr (.ref x) (Str.ofString "depth") b) Q E s := by
  have hg : plainGet (KK w) 321 (Str.ofString "depth") = true := by kernel_rfl
  refine get_bind B.X H.inst (plainGet_of hg).1 (findObj_data (a := .ref 125) (g := .builtin "property.__get__") (by obtain ⟨cd, hc, _⟩ := any_some (hh_has w); rw [hc]; rfl) (by kernel_rfl) (by kernel_rfl) (by kernel_rfl)) (plainGet_of hg).2 (wpAny_call (prop_get (s := { s with toks := s.toks + 1 }) (fget := 124) (rest := _) B.X (by rfl) ?_))
  refine p_call (s := { s with toks := s.toks + 1 }) (by rfl) (by rfl) (.of_eq (by rfl)) (by rfl) (by decide) (g_D w) (a_D w) (e ▸ l_D w r) B H hv (by show A.depth < 900; omega) (by rfl) (by rfl) (by rfl) (fun _ => by rfl) ?_
  intro h' tk' K
  show wpAny _ _ (handedOut v) _ _ _
  rw [handedOut_of hv]
  exact wpAny_pure (h h' tk' K)
theorem p_elements_added {v : Value} (B : Bs w s.heap) (H : HIn w s.heap x dx r) (hroom : A.depth < 890) (e : r.vE = v)
    (h : ∀ h' tk', Kp [] s.heap h' → Q v { s with heap := h', toks := tk' }) (hv : handedIn v = true := by rfl) : wpAny (model PG w) A (getAttr (.ref x) (Str.ofString "elements_added") b) Q E s := by
  have hg : plainGet (KK w) 321 (Str.ofString "elements_added") = true := by kernel_rfl
  refine get_bind B.X H.inst (plainGet_of hg).1 (findObj_data (a := .ref 133) (g := .builtin "property.__get__") (by obtain ⟨cd, hc, _⟩ := any_some (hh_has w); rw [hc]; rfl) (by kernel_rfl) (by kernel_rfl) (by kernel_rfl)) (plainGet_of hg).2 (wpAny_call (prop_get (s := { s with toks := s.toks + 1 }) (fget := 132) (rest := _) B.X (by rfl) ?_))
  refine p_call (s := { s with toks := s.toks + 1 }) (by rfl) (by rfl) (.of_eq (by rfl)) (by rfl) (by decide) (g_E w) (a_E w) (e ▸ l_E w r) B H hv (by show A.depth < 900; omega) (by rfl) (by rfl) (by rfl) (fun _ => by rfl) ?_
  intro h' tk' K
  show wpAny _ _ (handedOut v) _ _ _
  rw [handedOut_of hv]
  exact wpAny_pure (h h' tk' K)
theorem p_heavy_hitters {v : Value} (B : Bs w s.heap) (H : HIn w s.heap x dx r) (hroom : A.depth < 890) (e : r.vT = v)
    (h : ∀ h' tk', Kp [] s.heap h' → Q v { s with heap := h', toks := tk' }) (hv : handedIn v = true := by rfl) : wpAny (model PG w) A (getAttr (.ref x) (Str.ofString "heavy_hitters") b) Q E s := by
  have hg : plainGet (KK w) 321 (Str.ofString "heavy_hitters") = true := by kernel_rfl
  refine get_bind B.X H.inst (plainGet_of hg).1 (findObj_data (a := .ref 270) (g := .builtin "property.__get__") (by obtain ⟨cd, hc, _⟩ := any_some (hh_has w); rw [hc]; rfl) (by kernel_rfl) (by kernel_rfl) (by kernel_rfl)) (plainGet_of hg).2 (wpAny_call (prop_get (s := { s with toks := s.toks + 1 }) (fget := 269) (rest := _) B.X (by rfl) ?_))
  refine p_call (s := { s with toks := s.toks + 1 }) (by rfl) (by rfl) (.of_eq (by rfl)) (by rfl) (by decide) (g_T w) (a_T w) (e ▸ l_T w r) B H hv (by show A.depth < 900; omega) (by rfl) (by rfl) (by rfl) (fun _ => by rfl) ?_
  intro h' tk' K
  show wpAny _ _ (handedOut v) _ _ _
  rw [handedOut_of hv]
  exact wpAny_pure (h h' tk' K)
theorem p_number_heavy_hitters {v : Value} (B : Bs w s.heap) (H : HIn w s.heap x dx r) (hroom : A.depth < 890) (e : r.vN = v)
    (h : ∀ h' tk', Kp [] s.heap h' → Q v { s with heap := h', toks := tk' }) (hv : handedIn v = true := by rfl) : wpAny (model PG w) A (getAttr (.ref x) (Str.ofString "number_heavy_hitters") b) Q E s := by
  have hg : plainGet (KK w) 321 (Str.ofString "number_heavy_hitters") = true := by kernel_rfl
  refine get_bind B.X H.inst (plainGet_of hg).1 (findObj_data (a := .ref 278) (g := .builtin "property.__get__") (by obtain ⟨cd, hc, _⟩ := any_some (hh_has w); rw [hc]; rfl) (by kernel_rfl) (by kernel_rfl) (by kernel_rfl)) (plainGet_of hg).2 (wpAny_call (prop_get (s := { s with toks := s.toks + 1 }) (fget := 277) (rest := _) B.X (by rfl) ?_))
  refine p_call (s := { s with toks := s.toks + 1 }) (by rfl) (by rfl) (.of_eq (by rfl)) (by rfl) (by decide) (g_N w) (a_N w) (e ▸ l_N w r) B H hv (by show A.depth < 900; omega) (by rfl) (by rfl) (by rfl) (fun _ => by rfl) ?_
  intro h' tk' K
  show wpAny _ _ (handedOut v) _ _ _
  rw [handedOut_of hv]
  exact wpAny_pure (h h' tk' K)
end
end Mine
end

-- G1
section
open PySem PySem.W PyProof.Rows PySem.Calls PyProof.V PyProof.Rows.LCg
set_option Elab.async false
set_option maxRecDepth 100000
namespace Mine
/-- what one element of a block gives: its value, its own new objects; all that stood stands -/
def EltEnd (val : Nat → Value → List (Addr × Obj) → Prop) (i : Nat) (C : Addr) (s₃ : Shared) (y : Value) (s₅ : Shared) : Prop :=
  ∃ (h' : Heap) (tk' : Nat) (m' : Str → Option Value) (own : List (Addr × Obj)), s₅ = { s₃ with heap := h', toks := tk' } ∧ h'.Ns C m' ∧ (∀ b o, b ≠ C → s₃.heap.get? b = some o → h'.get? b = some o) ∧ val i y own ∧
    (∀ p ∈ own, s₃.heap.get? p.1 = none ∧ h'.get? p.1 = some p.2) ∧ (own.map (·.1)).Nodup
def CElt (prog : Program) (w : World) (A : Around) (target elt : Expr) (scope : Scope) (cl : List (Str × Addr)) (env : Env) (n : Nat) (val : Nat → Value → List (Addr × Obj) → Prop) (s₂ : Shared) (wr : List Addr) (P : Nat → Value → Heap → Prop) : Prop :=
  ∀ i v C m₃ h tk (E' : Value → Shared → Prop), i < n → P i v h → h.Ns C m₃ → s₂.heap.get? C = none → (∀ b o, s₂.heap.get? b = some o → b ∉ wr → h.get? b = some o) →
    wpAny (model prog w) A (assign target (compEnvC scope cl C env) v) (fun _ s₄ => wpAny (model prog w) A (eval elt (compEnvC scope cl C env)) (EltEnd val i C { s₂ with heap := h, toks := tk }) E' s₄) E' { s₂ with heap := h, toks := tk }
theorem flatten_snoc {α : Type} (xs : List (List α)) (x : List α) : (xs ++ [x]).flatten = xs.flatten ++ x := by simp
section
variable {prog : Program} {w : World} {A : Around} {E : Value → Shared → Prop} {env : Env} {target elt iter : Expr} {scope : Scope} {cl : List (Str × Addr)} {pos : Pos} {s₂ : Shared} {I : Addr} {fp wr : List Addr} {n : Nat} {P Md : Nat → Value → Heap → Prop} {St : Nat → Heap → Prop}
  {val : Nat → Value → List (Addr × Obj) → Prop} {RR : Value → Addr → Result → Shared → Prop}
def BlockFin (n : Nat) (val : Nat → Value → List (Addr × Obj) → Prop) (s₂ : Shared) (wr : List Addr) (D C : Addr) (h : Heap) : Prop :=
  ∃ (m' : Str → Option Value) (ys : List Value) (owns : List (List (Addr × Obj))), h.Ns C m' ∧ h.get? D = some (lst ys) ∧ ys.length = n ∧ owns.length = n ∧ (∀ i y own, ys[i]? = some y → owns[i]? = some own → val i y own) ∧
    (∀ p ∈ owns.flatten, s₂.heap.get? p.1 = none ∧ h.get? p.1 = some p.2 ∧ p.1 ≠ D ∧ p.1 ≠ C) ∧ (owns.flatten.map (·.1)).Nodup ∧ (∀ b o, s₂.heap.get? b = some o → b ∉ wr → h.get? b = some o)
theorem my_block (W : KTurns prog w A target I fp wr n P Md St) (self : ∀ (s : Shared) (Q : Value → Shared → Prop) (E : Value → Shared → Prop), St 0 s.heap → Q (.ref I) s → wpAny (model prog w) A (pyIter (.ref I)) Q E s)
    (hlive : ∀ i h, St i h → ∀ b ∈ fp, ∃ o, h.get? b = some o)
    (hsz : n ≤ sizeLine) (hcell : ∀ y ∈ scope.names, y.2 ≠ .cell) (hkind : scope.kind = .function) (hst : St 0 s₂.heap) (hfp : ∀ b ∈ fp, b < s₂.heap.objs.size)
    (T : CElt prog w A target elt scope cl env n val s₂ wr P)
    (hRR : ∀ D C h tk, C ≠ D → s₂.heap.get? C = none → s₂.heap.get? D = none → BlockFin n val s₂ wr D C h → RR (.ref D) C (.ok .next) { s₂ with heap := h, toks := tk }) :
    wpAny (model prog w) A (newList []) (fun acc s₃ => wpAny (model prog w) A (newFunctionEnv scope env.globals cl [] env.qual none .none (some env)) (fun cenv s₄ =>
      codeAny (model prog w) A (.compStart (.ListComp elt [⟨target, iter, [], 0⟩] scope pos) 0 (.ref I) acc { cenv with scope := relabel scope env }) (RR acc cenv.locals) s₄) E s₃) E s₂ := by
  refine wpAny_newObj_type (wpAny_newFunctionEnv hcell (by intro y hy; simp at hy) (fun h₁ hns₁ hsb₁ => ?_) hkind)
  dsimp only at hns₁ hsb₁ ⊢
  generalize hH2 : s₂.heap.push { cls := .type "list", dict := none, data := .seq ([] : List Value).toArray } = H2 at hns₁ hsb₁ ⊢
  have hC : H2.objs.size = s₂.heap.objs.size + 1 := by rw [← hH2, Heap.size_push]
  generalize hCq : H2.objs.size = C at hns₁ hsb₁ hC ⊢
  generalize hDq : s₂.heap.objs.size = D at hC ⊢
  have hDC : D ≠ C := by omega
  have below : ∀ b, b < D → b ≠ C ∧ b ≠ D := fun b hb => ⟨by omega, by omega⟩
  have hfp' : ∀ b ∈ fp, @LT.lt Nat _ b D := fun b hb => hDq ▸ hfp b hb
  have hDf : D ∉ fp := fun hm => Nat.lt_irrefl _ (hfp' _ hm)
  have hCf : C ∉ fp := fun hm => by have := hfp' _ hm; rw [hC] at this; exact Nat.lt_irrefl _ (Nat.lt_of_succ_lt this)
  have hCw : C ∉ wr := fun h => hCf (W.sub _ h)
  have hDw : D ∉ wr := fun h => hDf (W.sub _ h)
  have old : ∀ b o, s₂.heap.get? b = some o → h₁.get? b = some o := fun b o e => hsb₁.extBut b o (below b (hDq ▸ Heap.lt_size e)).1 (Heap.get?_push_of_some _ (hH2 ▸ Heap.get?_push_of_some _ e))
  have hacc : h₁.get? D = some (lst []) := hsb₁.extBut _ _ hDC (Heap.get?_push_of_some _ (hH2 ▸ hDq ▸ Heap.get?_push_size _ rfl))
  have hst₁ : St 0 h₁ := W.frame _ _ _ hst fun b _ o e => old b o e
  have fresh : ∀ a, D ≤ a → s₂.heap.get? a = none := fun a ha => by
    cases e : s₂.heap.get? a with
    | none => rfl
    | some o' => exact absurd (Heap.lt_size e) (Nat.not_lt.mpr (hDq ▸ ha))
  have loop : ∀ s₃ : Shared, s₃ = { s₂ with heap := h₁, toks := s₂.toks + ([] : List (Str × Value)).length } →
      codeAny (model prog w) A (.compLoop (.ListComp elt [⟨target, iter, [], 0⟩] scope pos) 0 (.ref I) (.ref D) (compEnvC scope cl C env)) (RR (.ref D) C) s₃ := by
    rintro s₃ rfl
    refine kcp_loop
      (fun k s' => ∃ (h' : Heap) (tk : Nat) (i : Nat) (ys : List Value) (owns : List (List (Addr × Obj))) (m' : Str → Option Value), s' = { s₂ with heap := h', toks := tk } ∧ i ≤ n ∧ k = n + 1 - i ∧ ys.length = i ∧ owns.length = i ∧ St i h' ∧ h'.Ns C m' ∧ h'.get? D = some (lst ys) ∧
        (∀ j y own, ys[j]? = some y → owns[j]? = some own → val j y own) ∧ (∀ p ∈ owns.flatten, s₂.heap.get? p.1 = none ∧ h'.get? p.1 = some p.2 ∧ p.1 ≠ D ∧ p.1 ≠ C ∧ p.1 ∉ fp) ∧ (owns.flatten.map (·.1)).Nodup ∧
        (∀ b o, s₂.heap.get? b = some o → b ∉ wr → h'.get? b = some o)) ?_ (n + 1)
      ⟨h₁, _, 0, [], [], _, rfl, Nat.zero_le _, rfl, rfl, rfl, hst₁, hns₁, hacc, by simp, by simp, by simp, fun b o e _ => old b o e⟩
    rintro k s' ⟨h', tk, i, ys, owns, m', rfl, hi, rfl, hyl, hol, hst', hn', hD', hv, hown, hnd, hk'⟩
    by_cases hlt : i < n
    · refine W.item i _ _ _ hlt hst' fun v h₂ tk₂ hMd hk₂ => ?_
      refine W.go i v _ _ _ hMd fun h₃ hP hst₃ hk₃ => ?_
      have up : ∀ b o, b ∉ wr → h'.get? b = some o → h₃.get? b = some o := fun b o hb e => hk₃ b o hb (hk₂ b o hb e)
      refine wpAny_mono (T i v C m' h₃ tk₂ _ hlt hP (hn'.at' fun o e => up _ o hCw e) (fresh C (by rw [hC]; exact Nat.le_succ _)) fun b o e hb => up b o hb (hk' b o e hb)) (fun _ s₄ h₄ => wpAny_mono h₄ (fun y s₅ h₅ => ?_) fun _ _ e => e) fun _ _ e => e
      obtain ⟨h₅, tk₅, m₅, own, rfl, hn₅, hk₅, hval, ho₅, hnd₅⟩ := h₅
      have up5 : ∀ b o, b ≠ C → b ∉ wr → h'.get? b = some o → h₅.get? b = some o := fun b o hb hw e => hk₅ b o hb (up b o hw e)
      have zD := up5 D _ hDC hDw hD'
      have hst₅ : St (i + 1) h₅ := W.frame _ _ _ hst₃ fun b hb o e => hk₅ b o (fun q => hCf (q ▸ hb)) e
      have zD3 := up D _ hDw hD'
      have zC3 : ∃ o, h₃.get? C = some o := let ⟨o, _, _, e, _⟩ := hn'; ⟨o, up C o hCw e⟩
      have newC : ∀ p ∈ own, p.1 ≠ C := fun p hp q => by obtain ⟨o, e⟩ := zC3; have := (ho₅ p hp).1; rw [q] at this; rw [this] at e; cases e
      have newF : ∀ p ∈ own, p.1 ∉ fp := fun p hp q => by
        obtain ⟨o, e⟩ := hlive _ _ hst₃ _ q
        have b1' : h₃.get? p.1 = none := (ho₅ p hp).1
        rw [b1'] at e; cases e
      have newD : ∀ p ∈ own, p.1 ≠ D := fun p hp q => by have := (ho₅ p hp).1; rw [q, zD3] at this; cases this
      refine append_at (hsz := by show ys.toArray.size ≤ sizeLine; rw [List.size_toArray, hyl]; exact Nat.le_trans hi hsz) zD fun h₆ hs₆ hD₆ => ?_
      have hs₆' : Heap.SameBut D h₅ h₆ := hs₆
      refine ⟨n + 1 - (i + 1), by omega, h₆, tk₅, i + 1, ys ++ [y], owns ++ [own], m₅, rfl, hlt, rfl, by simp [hyl], by simp [hol], W.frame _ _ _ hst₅ fun b hb o e => hs₆'.extBut b o (fun q => hDf (q ▸ hb)) e, hn₅.sameBut hs₆' (Ne.symm hDC), hD₆.trans (congrArg some (lst_snoc ys y)), ?_, ?_, ?_, ?_⟩
      · intro j y' own' hy' hw'
        rcases Nat.lt_trichotomy j i with h | h | h
        · rw [List.getElem?_append_left (by omega)] at hy' hw'
          exact hv j y' own' hy' hw'
        · subst h
          rw [List.getElem?_append_right (by omega)] at hy' hw'
          rw [hyl, Nat.sub_self] at hy'
          rw [hol, Nat.sub_self] at hw'
          simp at hy' hw'
          subst hy'; subst hw'
          exact hval
        · rw [List.getElem?_eq_none (by rw [List.length_append, List.length_singleton]; omega)] at hy'; cases hy'
      · intro p hp
        rw [flatten_snoc] at hp
        rcases List.mem_append.mp hp with hp | hp
        · obtain ⟨a1, a2, a3, a4, a5⟩ := hown p hp
          exact ⟨a1, hs₆'.extBut _ _ a3 (up5 _ _ a4 (fun q => a5 (W.sub _ q)) a2), a3, a4, a5⟩
        · obtain ⟨b1, b2⟩ := ho₅ p hp
          have b5 := newF p hp
          have b3 : s₂.heap.get? p.1 = none := by
            cases e : s₂.heap.get? p.1 with
            | none => rfl
            | some o =>
              have b1' : h₃.get? p.1 = none := b1
              rw [up _ _ (fun q => b5 (W.sub _ q)) (hk' _ _ e fun q => b5 (W.sub _ q))] at b1'; cases b1'
          exact ⟨b3, hs₆'.extBut _ _ (newD p hp) b2, newD p hp, newC p hp, b5⟩
      · rw [flatten_snoc, List.map_append]
        refine List.nodup_append.mpr ⟨hnd, hnd₅, fun a ha b hb q => ?_⟩
        obtain ⟨p, hp, rfl⟩ := List.mem_map.mp ha
        obtain ⟨p', hp', rfl⟩ := List.mem_map.mp hb
        obtain ⟨_, a2, _, _, a5⟩ := hown p hp
        have b1' : h₃.get? p'.1 = none := (ho₅ p' hp').1
        rw [← q, up _ _ (fun q => a5 (W.sub _ q)) a2] at b1'; cases b1'
      · intro b o e hb
        exact hs₆'.extBut _ _ (below b (hDq ▸ Heap.lt_size e)).2 (up5 _ _ (below b (hDq ▸ Heap.lt_size e)).1 hb (hk' b o e hb))
    · obtain rfl : i = n := by omega
      refine W.done _ _ _ hst' fun h₂ tk₂ hk₂ => ?_
      refine hRR D C h₂ tk₂ (Ne.symm hDC) (fresh C (by rw [hC]; exact Nat.le_succ _)) (fresh D (Nat.le_refl _)) ⟨m', ys, owns, hn'.at' fun o e => hk₂ _ o hCw e, hk₂ _ _ hDw hD', hyl, hol, hv, fun p hp => ?_, hnd, fun b o e hb => hk₂ b o hb (hk' b o e hb)⟩
      obtain ⟨a1, a2, a3, a4, a5⟩ := hown p hp
      exact ⟨a1, hk₂ _ _ (fun q => a5 (W.sub _ q)) a2, a3, a4⟩
  exact codeAny_compStart_list (loop _ rfl) (self _ _ _ hst₁ (loop _ rfl))

/-- the list is made: what stood stands (but the iterator's places, and x where asked) -/
def CFin (n : Nat) (val : Nat → Value → List (Addr × Obj) → Prop) (s₂ : Shared) (wr : List Addr) (D : Addr) (h : Heap) : Prop :=
  ∃ (ys : List Value) (owns : List (List (Addr × Obj))), h.get? D = some (lst ys) ∧ ys.length = n ∧ owns.length = n ∧ (∀ i y own, ys[i]? = some y → owns[i]? = some own → val i y own) ∧
    (∀ p ∈ owns.flatten, s₂.heap.get? p.1 = none ∧ h.get? p.1 = some p.2 ∧ p.1 ≠ D) ∧ (owns.flatten.map (·.1)).Nodup ∧ s₂.heap.get? D = none
def CSrc (prog : Program) (w : World) (A : Around) (target elt : Expr) (scope : Scope) (cl : List (Str × Addr)) (env : Env) (Fin : Shared → List Addr → Nat → (Nat → Value → List (Addr × Obj) → Prop) → Prop) (it : Value) (s₂ : Shared) : Prop :=
  ∃ (I : Addr) (fp wr : List Addr) (n : Nat) (P Md : Nat → Value → Heap → Prop) (St : Nat → Heap → Prop) (val : Nat → Value → List (Addr × Obj) → Prop), it = .ref I ∧ KTurns prog w A target I fp wr n P Md St ∧
    (∀ (s : Shared) (Q : Value → Shared → Prop) (E : Value → Shared → Prop), St 0 s.heap → Q (.ref I) s → wpAny (model prog w) A (pyIter (.ref I)) Q E s) ∧ (∀ i h, St i h → ∀ b ∈ fp, ∃ o, h.get? b = some o) ∧ n ≤ sizeLine ∧ St 0 s₂.heap ∧ (∀ b ∈ fp, b < s₂.heap.objs.size) ∧
    CElt prog w A target elt scope cl env n val s₂ wr P ∧ Fin s₂ wr n val
def FinV (Q : Value → Shared → Prop) (s₂ : Shared) (wr : List Addr) (n : Nat) (val : Nat → Value → List (Addr × Obj) → Prop) : Prop :=
  ∀ D h tk, CFin n val s₂ wr D h → (∀ b o, s₂.heap.get? b = some o → b ∉ wr → h.get? b = some o) → Q (.ref D) { s₂ with heap := h, toks := tk }
theorem my_ListComp {s : Shared} {Q : Value → Shared → Prop} (hclos : closureFor scope env = pure cl) (hcell : ∀ y ∈ scope.names, y.2 ≠ .cell) (hkind : scope.kind = .function)
    (hnames : ∀ y ∈ scope.names, y.2 = .local → scope.names.lookup y.1 = some .local)
    (h : wpAny (model prog w) A (eval iter env) (fun xv s₁ => wpAny (model prog w) A (pyIter xv) (fun it s₂ => CSrc prog w A target elt scope cl env (FinV Q) it s₂) E s₁) E s)
    (hs : ∀ x, foldedSetIterable iter env x = pure x := by intro _; rfl) :
    wpAny (model prog w) A (eval (.ListComp elt [⟨target, iter, [], 0⟩] scope pos) env) Q E s := by
  rw [eval_ListComp]
  refine wpAny_comprehension_free (use := none) rfl hs hclos hkind hnames (wpAny_mono h (fun xv s₁ h₁ => wpAny_mono h₁ (fun it s₂ h₂ => ?_) fun _ _ e => e) fun _ _ e => e)
  obtain ⟨I, fp, wr, n, P, Md, St, val, rfl, W, self, hlive, hsz, hst, hfp, T, fin⟩ := h₂
  refine my_block W self hlive hsz hcell hkind hst hfp T fun D C h tk hCD hC₀ hD₀ hB => ?_
  obtain ⟨m', ys, owns, hn, hD, hyl, hol, hv, ho, hnd, hk⟩ := hB
  refine ⟨m', hn, fun h'' hs'' => fin D h'' tk ⟨ys, owns, hs''.extBut _ _ (Ne.symm hCD) hD, hyl, hol, hv, fun p hp => ?_, hnd, hD₀⟩ fun b o e hb => hs''.extBut _ _ (fun q => ?_) (hk b o e hb)⟩
  · obtain ⟨a, b, c, d⟩ := ho p hp
    exact ⟨a, hs''.extBut _ _ d b, c⟩
  · rw [q, hC₀] at e; cases e

def FinL (L : Addr) (y : Str) (Q : Flow → Shared → Prop) (s₂ : Shared) (wr : List Addr) (n : Nat) (val : Nat → Value → List (Addr × Obj) → Prop) : Prop :=
  ∃ m, s₂.heap.Ns L m ∧ L ∉ wr ∧ ∀ D h tk, CFin n val s₂ wr D h → h.Ns L (fun z => if z = y then some (.ref D) else m z) → (∀ b o, s₂.heap.get? b = some o → b ∉ wr → b ≠ L → h.get? b = some o) → Q .next { s₂ with heap := h, toks := tk }
theorem my_Assign_ListComp {s : Shared} {y : Str} {py spos : Pos} {Q : Flow → Shared → Prop}
    (hsw : swapsWith (.ListComp elt [⟨target, iter, [], 0⟩] scope pos) (some (.Name y py)) spos.line env = pure true)
    (hclos : closureFor scope env = pure cl) (hcell : ∀ z ∈ scope.names, z.2 ≠ .cell) (hkind : scope.kind = .function)
    (hnames : ∀ z ∈ scope.names, z.2 = .local → scope.names.lookup z.1 = some .local)
    (hy : env.kindOf y = some .local) (hp : (env.scope.kind == .class || (env.scope.kind == .module && env.locals != env.globals)) = false)
    (h : wpAny (model prog w) A (eval iter env) (fun xv s₁ => wpAny (model prog w) A (pyIter xv) (fun it s₂ => CSrc prog w A target elt scope cl env (FinL env.locals y Q) it s₂) E s₁) E s)
    (hs : ∀ x, foldedSetIterable iter env x = pure x := by intro _; rfl) :
    wpAny (model prog w) A (exec (.Assign [.Name y py] (.ListComp elt [⟨target, iter, [], 0⟩] scope pos) spos) env) Q E s := by
  rw [exec_Assign_Name_used _ _ _ _ hsw]
  refine wpAny_bind (wpAny_standAt (wpAny_bind ?_))
  show wpAny _ A (do let _ ← comprehension (.ListComp elt [⟨target, iter, [], 0⟩] scope pos) scope env _ (newList []) false (eval iter env) (some (assign (.Name y py) env))) _ _ s
  refine wpAny_bind (wpAny_mono (wpAny_comprehension_free (use := some (assign (.Name y py) env)) (Q := fun _ s' => Q .next s') rfl hs hclos hkind hnames
    (wpAny_mono h (fun xv s₁ h₁ => wpAny_mono h₁ (fun it s₂ h₂ => ?_) fun _ _ e => e) fun _ _ e => e)) (fun _ s' hq => wpAny_pure (wpAny_pure hq)) fun _ _ e => e)
  obtain ⟨I, fp, wr, n, P, Md, St, val, rfl, W, self, hlive, hsz, hst, hfp, T, m₀, hnL, hLw, fin⟩ := h₂
  refine my_block W self hlive hsz hcell hkind hst hfp T fun D C h tk hCD hC₀ hD₀ hB => ?_
  obtain ⟨m', ys, owns, hn, hD, hyl, hol, hv, ho, hnd, hk⟩ := hB
  have hL₀ : ∃ o, s₂.heap.get? env.locals = some o := let ⟨o, _, _, e, _⟩ := hnL; ⟨o, e⟩
  have hCL : C ≠ env.locals := fun q => by obtain ⟨o, e⟩ := hL₀; rw [← q, hC₀] at e; cases e
  have hDL : D ≠ env.locals := fun q => by obtain ⟨o, e⟩ := hL₀; rw [← q, hD₀] at e; cases e
  show wpAny _ A (assign (.Name y py) env (.ref D)) _ _ _
  refine wpAny_assign_Name (wpAny_storeName_local hy (hnL.at' fun o e => hk _ o e hLw) (fun h₂ hn₂ hs₂ => ?_) hp)
  have hs₂' : Heap.SameBut env.locals h h₂ := hs₂
  refine ⟨m', hn.sameBut hs₂' hCL, fun h'' hs'' => fin D h'' _ ⟨ys, owns, hs''.extBut _ _ (Ne.symm hCD) (hs₂'.extBut _ _ hDL hD), hyl, hol, hv, fun p hp => ?_, hnd, hD₀⟩ (hn₂.sameBut hs'' (Ne.symm hCL)) fun b o e hb hbL => hs''.extBut _ _ (fun q => ?_) (hs₂'.extBut _ _ hbL (hk b o e hb))⟩
  · obtain ⟨a, b, c, d⟩ := ho p hp
    have hpL : p.1 ≠ env.locals := fun q => by obtain ⟨o, e⟩ := hL₀; rw [← q, a] at e; cases e
    exact ⟨a, hs''.extBut _ _ d (hs₂'.extBut _ _ hpL b), c⟩
  · rw [q, hC₀] at e; cases e
def FinC (c : Addr) (Q : Flow → Shared → Prop) (s₂ : Shared) (wr : List Addr) (n : Nat) (val : Nat → Value → List (Addr × Obj) → Prop) : Prop :=
  ∃ oc v₀, s₂.heap.get? c = some oc ∧ oc.data = .cell v₀ ∧ c ∉ wr ∧ ∀ D h tk oc', CFin n val s₂ wr D h → h.get? c = some oc' → oc'.data = .cell (some (.ref D)) → (∀ b o, s₂.heap.get? b = some o → b ∉ wr → b ≠ c → h.get? b = some o) → Q .next { s₂ with heap := h, toks := tk }
theorem my_Assign_ListComp_cell {s : Shared} {y : Str} {c : Addr} {py spos : Pos} {Q : Flow → Shared → Prop}
    (hsw : swapsWith (.ListComp elt [⟨target, iter, [], 0⟩] scope pos) (some (.Name y py)) spos.line env = pure true)
    (hclos : closureFor scope env = pure cl) (hcell : ∀ z ∈ scope.names, z.2 ≠ .cell) (hkind : scope.kind = .function)
    (hnames : ∀ z ∈ scope.names, z.2 = .local → scope.names.lookup z.1 = some .local)
    (hek : env.scope.kind = .function) (hy : env.kindOf y = some .cell) (hc : env.cells.lookup y = some c)
    (h : wpAny (model prog w) A (eval iter env) (fun xv s₁ => wpAny (model prog w) A (pyIter xv) (fun it s₂ => CSrc prog w A target elt scope cl env (FinC c Q) it s₂) E s₁) E s)
    (hs : ∀ x, foldedSetIterable iter env x = pure x := by intro _; rfl) :
    wpAny (model prog w) A (exec (.Assign [.Name y py] (.ListComp elt [⟨target, iter, [], 0⟩] scope pos) spos) env) Q E s := by
  rw [exec_Assign_Name_used _ _ _ _ hsw]
  refine wpAny_bind (wpAny_standAt (wpAny_bind ?_))
  show wpAny _ A (do let _ ← comprehension (.ListComp elt [⟨target, iter, [], 0⟩] scope pos) scope env _ (newList []) false (eval iter env) (some (assign (.Name y py) env))) _ _ s
  refine wpAny_bind (wpAny_mono (wpAny_comprehension_free (use := some (assign (.Name y py) env)) (Q := fun _ s' => Q .next s') rfl hs hclos hkind hnames
    (wpAny_mono h (fun xv s₁ h₁ => wpAny_mono h₁ (fun it s₂ h₂ => ?_) fun _ _ e => e) fun _ _ e => e)) (fun _ s' hq => wpAny_pure (wpAny_pure hq)) fun _ _ e => e)
  obtain ⟨I, fp, wr, n, P, Md, St, val, rfl, W, self, hlive, hsz, hst, hfp, T, oc, v₀, hcc, hcd, hcw, fin⟩ := h₂
  refine my_block W self hlive hsz hcell hkind hst hfp T fun D C h tk hCD hC₀ hD₀ hB => ?_
  obtain ⟨m', ys, owns, hn, hD, hyl, hol, hv, ho, hnd, hk⟩ := hB
  have hCc : C ≠ c := fun q => by rw [← q, hC₀] at hcc; cases hcc
  have hDc : D ≠ c := fun q => by rw [← q, hD₀] at hcc; cases hcc
  show wpAny _ A (assign (.Name y py) env (.ref D)) _ _ _
  refine wpAny_assign_Name (wpAny_storeName_cell hek hy hc ⟨oc, hk _ _ hcc hcw, hcd⟩ fun h₂ hv₂ hs₂ => ?_)
  have hs₂' : Heap.SameBut c h h₂ := hs₂
  obtain ⟨oc', hoc', hdc'⟩ := hv₂
  refine ⟨m', hn.sameBut hs₂' hCc, fun h'' hs'' => fin D h'' _ oc' ⟨ys, owns, hs''.extBut _ _ (Ne.symm hCD) (hs₂'.extBut _ _ hDc hD), hyl, hol, hv, fun p hp => ?_, hnd, hD₀⟩ (hs''.extBut _ _ (Ne.symm hCc) hoc') hdc' fun b o e hb hbL => hs''.extBut _ _ (fun q => ?_) (hs₂'.extBut _ _ hbL (hk b o e hb))⟩
  · obtain ⟨a, b, cc, d⟩ := ho p hp
    have hpL : p.1 ≠ c := fun q => by rw [← q, a] at hcc; cases hcc
    exact ⟨a, hs''.extBut _ _ d (hs₂'.extBut _ _ hpL b), cc⟩
  · rw [q, hC₀] at e; cases e
end
end Mine
end

-- G2
section
open PySem PySem.W PyProof.Rows PySem.Calls PyProof.V PyProof.Rows.LCg
set_option Elab.async false
set_option maxRecDepth 100000
set_option linter.unusedVariables false
namespace Mine
theorem get?_none_ge {h : Heap} {a : Addr} (ha : h.objs.size ≤ a) : h.get? a = none := by
  cases e : h.get? a with
  | none => rfl
  | some o' => exact absurd (Heap.lt_size e) (Nat.not_lt.mpr ha)
theorem letGo_rangeiter {M : Model} {A : Around} {E : Value → Shared → Prop} {x : Str} {px : Pos} {it v : Value} {Q' : Unit → Shared → Prop} {s' : Shared} (h : Q' () s') :
    wpAny M A (letOwnedTupleGo (.Name x px) it v) Q' E s' := wpAny_pure h
/-- from any element whose heap keeps all, to the turn of a block with one name -/
theorem celt_name {prog : Program} {w : World} {A : Around} {env : Env} {elt : Expr} {x : Str} {px : Pos} {scope : Scope} {cl : List (Str × Addr)} {n : Nat} {val : Nat → Value → List (Addr × Obj) → Prop} {s₂ : Shared} {wr : List Addr} {P : Nat → Value → Heap → Prop}
    (hk : scope.kind = .function) (hx : scope.names.lookup x = some .local)
    (turn : ∀ i v C m₃ h h₀ tk (E' : Value → Shared → Prop), i < n → P i v h₀ → Heap.SameBut C h₀ h → h.Ns C m₃ → m₃ x = some v → s₂.heap.get? C = none → (∀ b o, s₂.heap.get? b = some o → b ∉ wr → h.get? b = some o) →
      wpAny (model prog w) A (eval elt (compEnvC scope cl C env)) (EltEnd val i C { s₂ with heap := h, toks := tk }) E' { s₂ with heap := h, toks := tk }) :
    CElt prog w A (.Name x px) elt scope cl env n val s₂ wr P := by
  intro i v C m₃ h tk E' hi hP hn hC hk'
  refine wpAny_assign_Name (wpAny_storeName_local (lookup_relabel_local hx) hn (fun h₂ hn₂ hs₂ => ?_) (by simp [compEnvC, relabel, hk]))
  have hs₂' : Heap.SameBut C h h₂ := hs₂
  replace hn₂ : h₂.Ns C _ := hn₂
  refine wpAny_mono (turn i v C _ h₂ h _ E' hi hP hs₂' hn₂ (by simp) hC fun b o e hb => hs₂'.extBut _ _ (fun q => by rw [q, hC] at e; cases e) (hk' b o e hb)) (fun y s₅ h₅ => ?_) fun _ _ e => e
  obtain ⟨h', tk', m', own, rfl, a1, a2, a3, a4, a5⟩ := h₅
  refine ⟨h', tk', m', own, rfl, a1, fun b o hb e => a2 b o hb (hs₂'.extBut _ _ hb e), a3, fun p hp => ⟨?_, (a4 p hp).2⟩, a5⟩
  have z : h₂.get? p.1 = none := (a4 p hp).1
  have hpC : p.1 ≠ C := fun q => by obtain ⟨o, _, _, e, _⟩ := hn₂; rw [q, e] at z; cases z
  exact (hs₂'.2 _ hpC).symm.trans z
theorem eltEnd_keeps {val : Nat → Value → Prop} {i : Nat} {C : Addr} {s s' : Shared} {y : Value} {m : Str → Option Value} (hn : s.heap.Ns C m) (hv : val i y) (k : Keeps s s') : EltEnd (fun i y own => val i y ∧ own = []) i C s y s' := by
  obtain ⟨h', tk', rfl, kk⟩ := k
  exact ⟨h', tk', m, [], rfl, hn.at' fun o e => kk _ o e, fun b o _ e => kk b o e, ⟨hv, rfl⟩, by simp, by simp⟩
/-- the pieces of what is made: a plain list of values, no own objects -/
theorem cfin_plain {n : Nat} {val : Nat → Value → Prop} {s₂ : Shared} {wr : List Addr} {D : Addr} {h : Heap} (c : CFin n (fun i y own => val i y ∧ own = []) s₂ wr D h) :
    ∃ ys, h.get? D = some (lst ys) ∧ ys.length = n ∧ (∀ i y, ys[i]? = some y → val i y) ∧ s₂.heap.get? D = none := by
  obtain ⟨ys, owns, a1, a2, a3, a4, a5, a6, a7⟩ := c
  refine ⟨ys, a1, a2, fun i y e => ?_, a7⟩
  have hi : i < owns.length := by
    have : i < ys.length := (List.getElem?_eq_some_iff.mp e).1
    omega
  exact (a4 i y owns[i] e (by simp [hi])).1
/-- a list made of values of which val speaks -/
def Made (n : Nat) (val : Nat → Value → Prop) (h h' : Heap) (D : Addr) : Prop := ∃ ys, h'.get? D = some (lst ys) ∧ ys.length = n ∧ (∀ i y, ys[i]? = some y → val i y) ∧ h.get? D = none
theorem finV_plain {n : Nat} {val : Nat → Value → Prop} {s : Shared} {h₁ : Heap} {wr : List Addr} {Q : Value → Shared → Prop} (tk₁ : Nat) (up : ∀ b o, s.heap.get? b = some o → h₁.get? b = some o) (hw : ∀ b ∈ wr, s.heap.get? b = none)
    (fin : ∀ D h tk, Made n val s.heap h D → (∀ b o, s.heap.get? b = some o → h.get? b = some o) → Q (.ref D) { s with heap := h, toks := tk }) :
    FinV Q { s with heap := h₁, toks := tk₁ } wr n (fun i y own => val i y ∧ own = []) := by
  intro D h tk c k
  obtain ⟨ys, a1, a2, a3, a4⟩ := cfin_plain c
  refine fin D h tk ⟨ys, a1, a2, a3, ?_⟩ fun b o e => k b o (up b o e) fun q => by rw [hw b q] at e; cases e
  cases e : s.heap.get? D with
  | none => rfl
  | some o => rw [up _ _ e] at a4; cases a4
theorem finL_plain {n : Nat} {val : Nat → Value → Prop} {s : Shared} {h₁ : Heap} {wr : List Addr} {Q : Flow → Shared → Prop} {g : Heap} {L : Addr} {y : Str} {m : Str → Option Value} {news : List (Addr × Obj)} (tk₁ : Nat)
    (F : Fr g L s.heap m) (N : News g L s.heap news) (up : ∀ b o, s.heap.get? b = some o → h₁.get? b = some o) (hw : ∀ b ∈ wr, s.heap.get? b = none)
    (fin : ∀ D h tk ys, Fr g L h (fun z => if z = y then some (.ref D) else m z) → News g L h ((D, lst ys) :: news) → ys.length = n → (∀ i v, ys[i]? = some v → val i v) → (∀ p ∈ news, p.1 ≠ D) → Q .next { s with heap := h, toks := tk }) :
    FinL L y Q { s with heap := h₁, toks := tk₁ } wr n (fun i y own => val i y ∧ own = []) := by
  have hL : ∃ o, s.heap.get? L = some o := let ⟨o, _, _, e, _⟩ := F.ns; ⟨o, e⟩
  have hLw : L ∉ wr := fun q => by
    obtain ⟨o, e⟩ := hL
    rw [hw _ q] at e
    cases e
  unfold FinL
  refine ⟨m, F.ns.at' fun o e => up _ o e, hLw, fun D h tk c hn k => ?_⟩
  obtain ⟨ys, a1, a2, a3, a4⟩ := cfin_plain c
  have hD : s.heap.get? D = none := by
    cases e : s.heap.get? D with
    | none => rfl
    | some o => rw [up _ _ e] at a4; cases a4
  have kk : ∀ b o, s.heap.get? b = some o → b ≠ L → h.get? b = some o := fun b o e n => k b o (up b o e) (fun q => by rw [hw b q] at e; cases e) n
  have gL : g.get? L = none := Heap.get?_none_of_le F.above
  have hDN : ∀ p ∈ news, p.1 ≠ D := fun p hp q => by have := (N p hp).1; rw [q, hD] at this; cases this
  refine fin D h tk ys ⟨hn, fun b o e => kk b o (F.keep b o e) (fun q => by rw [q, gL] at e; cases e), F.above⟩ (fun p hp => ?_) a2 a3 hDN
  rcases List.mem_cons.mp hp with rfl | hp
  · refine ⟨a1, fun q => ?_, ?_⟩
    · obtain ⟨o, e⟩ := hL
      have q' : D = L := q
      rw [← q', hD] at e; cases e
    · cases e : g.get? D with
      | none => rfl
      | some o => rw [F.keep _ _ e] at hD; cases hD
  · exact ⟨kk _ _ (N p hp).1 (N p hp).2.1, (N p hp).2⟩
section
variable {prog : Program} {w : World} {A : Around} {E : Value → Shared → Prop} {s : Shared} {env : Env} {elt : Expr} {scope : Scope} {cl : List (Str × Addr)} {x : Str} {px : Pos} {Fin : Shared → List Addr → Nat → (Nat → Value → List (Addr × Obj) → Prop) → Prop}
theorem csrc_list {l : Addr} {vs : List Value} (val : Nat → Value → Prop) (hh : A.handled = none) (hl : s.heap.IsList l vs.toArray) (hsz : vs.length ≤ sizeLine) (hk : scope.kind = .function) (hx : scope.names.lookup x = some .local)
    (turn : ∀ i v C m₃ h tk (E' : Value → Shared → Prop), vs[i]? = some v → h.Ns C m₃ → m₃ x = some v → (∀ b o, s.heap.get? b = some o → h.get? b = some o) →
      wpAny (model prog w) A (eval elt (compEnvC scope cl C env)) (fun y s' => val i y ∧ Keeps { s with heap := h, toks := tk } s') E' { s with heap := h, toks := tk })
    (fin : ∀ h₁, (∀ b o, s.heap.get? b = some o → h₁.get? b = some o) → Fin { s with heap := h₁ } [s.heap.objs.size] vs.length (fun i y own => val i y ∧ own = [])) :
    wpAny (model prog w) A (pyIter (.ref l)) (fun it s₂ => CSrc prog w A (.Name x px) elt scope cl env Fin it s₂) E s := by
  have hlt : l < s.heap.objs.size := by obtain ⟨_, e, _⟩ := hl; exact Heap.lt_size e
  have hne : l ≠ s.heap.objs.size := Nat.ne_of_lt hlt
  refine wpAny_pyIter_list hl ?_
  have up : ∀ b o, s.heap.get? b = some o → (s.heap.push { cls := .type "list_iterator", data := .fields #[.ref l, .int 0 0] }).get? b = some o := fun b o e => Heap.get?_push_of_some _ e
  have W := Walks.list (prog := prog) (w := w) hh s.heap.objs.size l hne vs.toArray
  refine ⟨_, _, _, vs.toArray.size, _, _, _, fun i y own => val i y ∧ own = [], rfl, KTurns.ofWalks W fun i v s Q E st q => letGo_listiter st.1 q, fun s Q E st q => W.self 0 s Q E st q, fun i h st b hb => ?_, by simpa using hsz,
    ⟨⟨_, Heap.get?_push_size _ rfl, rfl, rfl⟩, hl.at fun o e => up _ o e⟩, fun b hb => ?_, ?_, by simpa using fin _ up⟩
  · rcases List.mem_cons.mp hb with rfl | hb
    · obtain ⟨o, e, _⟩ := st.1; exact ⟨o, e⟩
    · obtain ⟨o, e, _⟩ := st.2; rw [List.mem_singleton.mp hb]; exact ⟨o, e⟩
  · show b < (s.heap.push _).objs.size
    rw [Heap.size_push]
    rcases List.mem_cons.mp hb with rfl | hb
    · exact Nat.lt_succ_self _
    · rw [List.mem_singleton.mp hb]; exact Nat.lt_succ_of_lt hlt
  · refine celt_name hk hx fun i v C m₃ h h₀ tk E' hi hP _ hn hm hC kk => ?_
    refine wpAny_mono (turn i v C m₃ h tk E' (by simpa using hP) hn hm fun b o e => kk b o (up b o e) fun q => ?_) (fun y s' h' => eltEnd_keeps hn h'.1 h'.2) fun _ _ e => e
    rw [List.mem_singleton.mp q, get?_none_ge (Nat.le_refl _)] at e; cases e
theorem csrc_range {r : Addr} {a b : Int} {t u v : Tok} {n : Nat} (val : Nat → Value → List (Addr × Obj) → Prop) (hh : A.handled = none) (hr : IsRange s.heap r a b 1 t u v) (hsm : Builtin.Range.small a b 1 = true) (hn : Builtin.Range.rangeSize a b 1 = ((n : Nat) : Int)) (hsz : n ≤ sizeLine)
    (hk : scope.kind = .function) (hx : scope.names.lookup x = some .local)
    (turn : ∀ i t C m₃ h tk (E' : Value → Shared → Prop), i < n → h.Ns C m₃ → m₃ x = some (.int (a + (i : Int)) t) → (∀ b o, s.heap.get? b = some o → h.get? b = some o) →
      wpAny (model prog w) A (eval elt (compEnvC scope cl C env)) (EltEnd val i C { s with heap := h, toks := tk }) E' { s with heap := h, toks := tk })
    (fin : ∀ h₁, (∀ b o, s.heap.get? b = some o → h₁.get? b = some o) → Fin { s with heap := h₁ } [s.heap.objs.size] n val) :
    wpAny (model prog w) A (pyIter (.ref r)) (fun it s₂ => CSrc prog w A (.Name x px) elt scope cl env Fin it s₂) E s := by
  refine wpAny_pyIter_range hr hsm ?_
  have up : ∀ b' o, s.heap.get? b' = some o → (s.heap.push { cls := .type "range_iterator", data := .fields #[rawInt a, rawInt (Builtin.Range.rangeSize a b 1), rawInt 1] }).get? b' = some o := fun b o e => Heap.get?_push_of_some _ e
  have W := range_walks (prog := prog) (w := w) (I := s.heap.objs.size) hh a n
  refine ⟨_, _, _, n, _, _, _, val, rfl, KTurns.ofWalks W fun i v s Q E st q => letGo_rangeiter q, fun s Q E st q => W.self 0 s Q E st q, fun i h st b hb => ?_, hsz,
    by show IsRangeIter _ _ _ _ _; rw [hn]; simpa using Heap.get?_push_size _ rfl, fun b hb => ?_, ?_, fin _ up⟩
  · rw [List.mem_singleton.mp hb]; exact ⟨_, st⟩
  · rw [List.mem_singleton.mp hb]
    show s.heap.objs.size < (s.heap.push _).objs.size
    rw [Heap.size_push]; exact Nat.lt_succ_self _
  · refine celt_name hk hx fun i v C m₃ h h₀ tk E' hi hP _ hn hm hC kk => ?_
    obtain ⟨t, rfl⟩ := hP
    refine turn i t C m₃ h tk E' hi hn hm fun b o e => kk b o (up b o e) fun q => ?_
    rw [List.mem_singleton.mp q, get?_none_ge (Nat.le_refl _)] at e; cases e
theorem csrc_enum {l : Addr} {vs : List Value} {xa xb : Str} {pa pb tp : Pos} {kk : Nat} (val : Nat → Value → Prop) (hh : A.handled = none) (hl : s.heap.IsList l vs.toArray) (hsz : vs.length ≤ sizeLine) (hk : scope.kind = .function) (hxa : scope.names.lookup xa = some .local) (hxb : scope.names.lookup xb = some .local) (hab : ¬ xa = xb)
    (turn : ∀ i v t C m₃ h tk (E' : Value → Shared → Prop), vs[i]? = some v → h.Ns C m₃ → m₃ xa = some (.int (i : Int) t) → m₃ xb = some v → (∀ b o, s.heap.get? b = some o → h.get? b = some o) →
      wpAny (model prog w) A (eval elt (compEnvC scope cl C env)) (fun y s' => val i y ∧ Keeps { s with heap := h, toks := tk } s') E' { s with heap := h, toks := tk })
    (fin : ∀ h₁, (∀ b o, s.heap.get? b = some o → h₁.get? b = some o) → Fin { s with heap := h₁ } [s.heap.objs.size + 1, s.heap.objs.size] vs.length (fun i y own => val i y ∧ own = [])) :
    wpAny (model prog w) A (call (.type "enumerate") [.ref l]) (fun xv s₁ => wpAny (model prog w) A (pyIter xv) (fun it s₂ => CSrc prog w A (.Tuple [.Name xa pa, .Name xb pb] kk tp) elt scope cl env Fin it s₂) E s₁) E s := by
  have hlt : l < s.heap.objs.size := by obtain ⟨_, e, _⟩ := hl; exact Heap.lt_size e
  refine call_enumerate_list hl fun h' hE hI hsz' up => ?_
  refine wpAny_pyIter_enum hE ?_
  have W := (WalksT.enumerate (prog := prog) (w := w) hh (s.heap.objs.size + 1) s.heap.objs.size l (Nat.succ_ne_self _) (Nat.ne_of_lt (Nat.lt_succ_of_lt hlt)) (Nat.ne_of_lt hlt) vs.toArray).toU
  refine ⟨_, _, _, vs.toArray.size, _, _, _, fun i y own => val i y ∧ own = [], rfl, KTurns.ofWalksU W, fun s Q E st q => W.self 0 s Q E st q, fun i h st b hb => ?_, by simpa using hsz,
    ⟨⟨_, hE⟩, hI, hl.at fun o e => up _ o e⟩, fun b hb => ?_, ?_, by simpa using fin _ up⟩
  · obtain ⟨⟨old, he⟩, ⟨oi, hoi, _⟩, ol, hol, _⟩ := st
    rcases List.mem_cons.mp hb with rfl | hb
    · exact ⟨_, he⟩
    · rcases List.mem_cons.mp hb with rfl | hb
      · exact ⟨_, hoi⟩
      · rw [List.mem_singleton.mp hb]; exact ⟨_, hol⟩
  · show b < h'.objs.size
    rw [hsz']
    rcases List.mem_cons.mp hb with rfl | hb
    · exact Nat.lt_succ_self _
    · rcases List.mem_cons.mp hb with rfl | hb
      · exact Nat.lt_succ_of_lt (Nat.lt_succ_self _)
      · rw [List.mem_singleton.mp hb]; exact Nat.lt_succ_of_lt (Nat.lt_succ_of_lt hlt)
  · intro i v C m₃ h tk E' hi hP hn hC kk'
    obtain ⟨T, vals, rfl, ⟨t, x, hx, rfl⟩, hT⟩ := hP
    refine kcp_assign hh hT (lookup_relabel_local hxa) (lookup_relabel_local hxb) (by simp [compEnvC, relabel, hk]) hn fun h₂ tk₂ hn₂ hk₂ => ?_
    have hk₂' : ∀ c o, c ≠ C → h.get? c = some o → h₂.get? c = some o := hk₂
    have up₂ : ∀ b o, s.heap.get? b = some o → h₂.get? b = some o := fun b o e => by
      have hb1 : b ≠ C := fun q => by rw [← q] at hC; have := up _ _ e; rw [show h'.get? b = none from hC] at this; cases this
      refine hk₂' b o hb1 (kk' b o (up b o e) fun q => ?_)
      rcases List.mem_cons.mp q with q | q
      · rw [q, get?_none_ge (Nat.le_succ _)] at e; cases e
      · rw [List.mem_singleton.mp q, get?_none_ge (Nat.le_refl _)] at e; cases e
    refine wpAny_mono (turn i x t C _ h₂ tk₂ E' (by simpa using hx) hn₂ (by simp [hab]) (by simp) up₂) (fun y s' h₅ => ?_) fun _ _ e => e
    obtain ⟨hv, h₆, tk₆, rfl, k₆⟩ := h₅
    exact ⟨h₆, tk₆, _, [], rfl, hn₂.at' fun o e => k₆ _ o e, fun b o hb e => k₆ b o (hk₂' b o hb e), ⟨hv, rfl⟩, by simp, by simp⟩
end
end Mine
end

-- G3
section
open PySem PySem.W PyProof.Rows PySem.Calls PyProof.V
set_option Elab.async false
set_option maxRecDepth 100000
set_option linter.unusedVariables false
namespace Mine
theorem none_of_up' {h h' : Heap} {l : Addr} (up : ∀ b o, h.get? b = some o → h'.get? b = some o) (e : h'.get? l = none) : h.get? l = none := by
  cases q : h.get? l with
  | none => rfl
  | some o => rw [up _ _ q] at e; cases e
section
variable {prog : Program} {w : World} {A : Around} {E : Value → Shared → Prop} {s : Shared} {env : Env} {g : Heap} {target : Expr} {body : List Stmt} {Q : Flow → Shared → Prop}
/-- a turn's end: the iterator's own objects stand, the ledger holds, the word holds of the next number -/
def EndO (g : Heap) (L : Addr) (own : List (Addr × Obj)) (wr : List Addr) (J : (Str → Option Value) → List (Addr × Obj) → Prop) (s : Shared) (Q : Flow → Shared → Prop) (f : Flow) (s' : Shared) : Prop :=
  match f with
  | .ret v => Q (.ret v) s'
  | .brk => Q .next s'
  | _ => ∃ h' tk' m' news', s' = { s with heap := h', toks := tk' } ∧ Fr g L h' m' ∧ News g L h' (own ++ news') ∧ (∀ p ∈ news', p.1 ∉ wr) ∧ J m' news'
theorem endO_next {L : Addr} {own : List (Addr × Obj)} {wr : List Addr} {J : (Str → Option Value) → List (Addr × Obj) → Prop} {s s' : Shared} {h' : Heap} {tk' : Nat} {m' : Str → Option Value} {news' : List (Addr × Obj)}
    (e : s' = { s with heap := h', toks := tk' }) (F : Fr g L h' m') (N : News g L h' (own ++ news')) (hw : ∀ p ∈ news', p.1 ∉ wr) (hJ : J m' news') : EndO g L own wr J s Q .next s' := ⟨h', tk', m', news', e, F, N, hw, hJ⟩
theorem for_core {I : Addr} {fp wr : List Addr} {n : Nat} {P Md : Nat → Value → Heap → Prop} {St : Nat → Heap → Prop} {m : Str → Option Value} {news : List (Addr × Obj)} (W : KTurns prog w A target I fp wr n P Md St)
    (hLf : env.locals ∉ fp) (hwr : ∀ b ∈ wr, g.get? b = none) (hnw : ∀ p ∈ news, p.1 ∉ wr) (hst : St 0 s.heap) (F : Fr g env.locals s.heap m) (N : News g env.locals s.heap news)
    (J : Nat → (Str → Option Value) → List (Addr × Obj) → Prop) (h0 : J 0 m news)
    (hfix : ∀ b ∈ fp, b ∉ wr → ∃ o, (∀ i m₁ news₁, J i m₁ news₁ → (b, o) ∈ news₁) ∨ g.get? b = some o)
    (turn : ∀ i v m₁ news₁ h tk own, i < n → St (i + 1) h → P i v h → J i m₁ news₁ → (∀ p ∈ news₁, p.1 ∉ wr) → (∀ p ∈ own, p.1 ∈ wr) → (∀ b ∈ wr, ∀ o, h.get? b = some o → (b, o) ∈ own) → Fr g env.locals h m₁ → News g env.locals h (own ++ news₁) →
      wpAny (model prog w) A (assign target env v) (fun _ s₃ => wpAny (model prog w) A (execs body env) (EndO g env.locals own wr (J (i + 1)) { s with heap := h, toks := tk } Q) E s₃) E { s with heap := h, toks := tk })
    (done : ∀ h tk m₁ news₁, Fr g env.locals h m₁ → News g env.locals h news₁ → J n m₁ news₁ → Q .next { s with heap := h, toks := tk }) :
    TurnsAt prog w A g env target body Q E (.ref I) s := by
  refine ⟨I, fp, wr, n, P, Md, St, m, news, J, rfl, W, hLf, hwr, hnw, hst, F, N, h0, ?_, fun h' tk m' news' F' N' _ hJ => done h' tk m' news' F' N' hJ⟩
  intro i v m₁ news₁ h₁ tk₁ own hi hP hJ hw hofp hoat hocov hst₁ F₁ N₁
  have hsub : News g env.locals h₁ ((own.filter fun p => decide (p.1 ∈ wr)) ++ news₁) := fun p hp => N₁ p (by
    rcases List.mem_append.mp hp with q | q
    · exact List.mem_append_left _ (List.mem_filter.mp q).1
    · exact List.mem_append_right _ q)
  refine wpAny_mono (turn i v m₁ news₁ h₁ tk₁ (own.filter fun p => decide (p.1 ∈ wr)) hi hst₁ hP hJ hw (fun p hp => by simpa using (List.mem_filter.mp hp).2) (fun b hb o e => List.mem_filter.mpr ⟨hocov b (W.sub b hb) (hwr b hb) o e, by simpa using hb⟩) F₁ hsub) (fun _ s₃ h₃ => wpAny_mono h₃ (fun f s₄ h₄ => ?_) fun _ _ e => e) fun _ _ e => e
  have fin : (∃ h' tk' m' news', s₄ = { s with heap := h', toks := tk' } ∧ Fr g env.locals h' m' ∧ News g env.locals h' ((own.filter fun p => decide (p.1 ∈ wr)) ++ news') ∧ (∀ p ∈ news', p.1 ∉ wr) ∧ J (i + 1) m' news') → LoopStepU g env.locals wr own (J (i + 1)) { s with heap := h₁, toks := tk₁ } .next s₄ := by
    rintro ⟨h', tk', m', news', rfl, F', N', hw', hJ'⟩
    refine ⟨rfl, h', tk', m', news', rfl, F', fun p hp => ?_, hw', hJ'⟩
    rcases List.mem_append.mp hp with q | q
    · by_cases hpw : p.1 ∈ wr
      · exact N' p (List.mem_append_left _ (List.mem_filter.mpr ⟨q, by simpa using hpw⟩))
      · obtain ⟨o, ho⟩ := hfix p.1 (hofp p q) hpw
        have hpn := N₁ p (List.mem_append_left _ q)
        rcases ho with ho | ho
        · have h1 := N₁ _ (List.mem_append_right own (ho i m₁ news₁ hJ))
          have e1 : p.2 = o := by have := hpn.1; rw [h1.1] at this; exact (Option.some.inj this).symm
          have h2 := N' _ (List.mem_append_right _ (ho (i + 1) m' news' hJ'))
          rw [show p = (p.1, o) from Prod.ext rfl e1]
          exact h2
        · rw [hpn.2.2] at ho; cases ho
    · exact N' p (List.mem_append_right _ q)
  cases f with
  | ret v => exact h₄
  | brk => exact h₄
  | next => exact fin h₄
  | cont => exact fin h₄
theorem for_range {r : Addr} {a b : Int} {t u v : Tok} {n : Nat} {x : Str} {px : Pos} {m : Str → Option Value} {news : List (Addr × Obj)}
    (hh : A.handled = none) (hr : IsRange s.heap r a b 1 t u v) (hsm : Builtin.Range.small a b 1 = true) (hn : Builtin.Range.rangeSize a b 1 = ((n : Nat) : Int))
    (F : Fr g env.locals s.heap m) (N : News g env.locals s.heap news) (hx : env.kindOf x = some .local) (hp : (env.scope.kind == .class || (env.scope.kind == .module && env.locals != env.globals)) = false)
    (J : Nat → (Str → Option Value) → List (Addr × Obj) → Prop) (h0 : J 0 m news)
    (turn : ∀ i t m₁ news₁ h tk I oI, i < n → J i m₁ news₁ → (∀ p ∈ news₁, p.1 ≠ I) → g.get? I = none → Fr g env.locals h (fun y => if y = x then some (.int (a + (i : Int)) t) else m₁ y) → News g env.locals h ((I, oI) :: news₁) →
      wpAny (model prog w) A (execs body env) (EndO g env.locals [(I, oI)] [I] (J (i + 1)) { s with heap := h, toks := tk } Q) E { s with heap := h, toks := tk })
    (done : ∀ h tk m₁ news₁, Fr g env.locals h m₁ → News g env.locals h news₁ → J n m₁ news₁ → Q .next { s with heap := h, toks := tk }) :
    wpAny (model prog w) A (pyIter (.ref r)) (fun it s₂ => TurnsAt prog w A g env (.Name x px) body Q E it s₂) E s := by
  refine wpAny_pyIter_range hr hsm ?_
  have up : ∀ b' o, s.heap.get? b' = some o → (s.heap.push { cls := .type "range_iterator", data := .fields #[rawInt a, rawInt (Builtin.Range.rangeSize a b 1), rawInt 1] }).get? b' = some o := fun b o e => Heap.get?_push_of_some _ e
  have W := LCg.range_walks (prog := prog) (w := w) (I := s.heap.objs.size) hh a n
  have hI : s.heap.get? s.heap.objs.size = none := get?_none_ge (Nat.le_refl _)
  have hIg : g.get? s.heap.objs.size = none := none_of_up' F.keep hI
  have hIN : ∀ p ∈ news, p.1 ≠ s.heap.objs.size := fun p hp q => by have := (N p hp).1; rw [q, hI] at this; cases this
  refine for_core (s := { s with heap := _ }) (KTurns.ofWalks W fun i v s Q E st q => letGo_rangeiter q) (fun q => ?_) (fun b hb => by rw [List.mem_singleton.mp hb]; exact hIg) (fun p hp q => hIN p hp (List.mem_singleton.mp q))
    (by show IsRangeIter _ _ _ _ _; rw [hn]; simpa using Heap.get?_push_size _ rfl) (F.keeps up) (N.grown up) J h0 (fun b hb hn => absurd hb hn) ?_ (fun h tk m₁ news₁ => done h tk m₁ news₁)
  · have := F.ns.lt
    rw [List.mem_singleton.mp q] at this
    exact Nat.lt_irrefl _ this
  · rintro i v m₁ news₁ h tk own hi hst' ⟨t, rfl⟩ hJ hw hown hcov F₁ N₁
    obtain ⟨oI, hoI⟩ : ∃ oI, h.get? s.heap.objs.size = some oI := ⟨_, hst'⟩
    have hmem := hcov _ (.head _) _ hoI
    refine wpAny_assign_Name (wpAny_storeName_local hx F₁.ns (fun h₂ hn₂ hs₂ => ?_) hp)
    have F₂ := F₁.set hn₂ hs₂
    have N₂ := N₁.set hs₂
    refine wpAny_mono (turn i t m₁ news₁ h₂ _ s.heap.objs.size oI hi hJ (fun p hp q => hw p hp (List.mem_singleton.mpr q)) hIg F₂ (fun p hp => ?_)) (fun f s₄ h₄ => ?_) fun _ _ e => e
    · rcases List.mem_cons.mp hp with rfl | hp
      · exact N₂ _ (List.mem_append_left _ hmem)
      · exact N₂ _ (List.mem_append_right _ hp)
    · have fin : (∃ h' tk' m' news', s₄ = { s with heap := h', toks := tk' } ∧ Fr g env.locals h' m' ∧ News g env.locals h' ([(s.heap.objs.size, oI)] ++ news') ∧ (∀ p ∈ news', p.1 ∉ [s.heap.objs.size]) ∧ J (i + 1) m' news') →
          ∃ h' tk' m' news', s₄ = { s with heap := h', toks := tk' } ∧ Fr g env.locals h' m' ∧ News g env.locals h' (own ++ news') ∧ (∀ p ∈ news', p.1 ∉ [s.heap.objs.size]) ∧ J (i + 1) m' news' := by
        rintro ⟨h', tk', m', news', rfl, F', N', hw', hJ'⟩
        refine ⟨h', tk', m', news', rfl, F', fun p hp => ?_, hw', hJ'⟩
        rcases List.mem_append.mp hp with q | q
        · have e1 := List.mem_singleton.mp (hown p q)
          have e2 : p.2 = oI := by have := (N₁ p (List.mem_append_left _ q)).1; rw [e1, hoI] at this; exact (Option.some.inj this).symm
          rw [show p = (s.heap.objs.size, oI) from Prod.ext e1 e2]
          exact N' _ (.head _)
        · exact N' p (List.mem_append_right _ q)
      cases f with
      | ret v => exact h₄
      | brk => exact h₄
      | next => exact fin h₄
      | cont => exact fin h₄
theorem for_enum {l : Addr} {ol : Obj} {vs : List Value} {k : Nat} {xa xb : Str} {pa pb tp : Pos} {kk : Nat} {m : Str → Option Value} {news : List (Addr × Obj)}
    (hh : A.handled = none) (hl : (l, ol) ∈ news) (hoc : ol.cls = .type "list") (hod : ol.data = .seq vs.toArray k)
    (F : Fr g env.locals s.heap m) (N : News g env.locals s.heap news) (hxa : env.kindOf xa = some .local) (hxb : env.kindOf xb = some .local) (hp : (env.scope.kind == .class || (env.scope.kind == .module && env.locals != env.globals)) = false)
    (J : Nat → (Str → Option Value) → List (Addr × Obj) → Prop) (h0 : J 0 m news) (hJl : ∀ i m₁ news₁, J i m₁ news₁ → (l, ol) ∈ news₁)
    (turn : ∀ i v t m₁ news₁ h tk e oe it oi, vs[i]? = some v → J i m₁ news₁ → (∀ p ∈ news₁, p.1 ≠ e ∧ p.1 ≠ it) → g.get? e = none → g.get? it = none → Fr g env.locals h (fun z => if z = xb then some v else if z = xa then some (.int (i : Int) t) else m₁ z) → News g env.locals h ((e, oe) :: (it, oi) :: news₁) →
      wpAny (model prog w) A (execs body env) (EndO g env.locals [(e, oe), (it, oi)] [e, it] (J (i + 1)) { s with heap := h, toks := tk } Q) E { s with heap := h, toks := tk })
    (done : ∀ h tk m₁ news₁, Fr g env.locals h m₁ → News g env.locals h news₁ → J vs.length m₁ news₁ → Q .next { s with heap := h, toks := tk }) :
    wpAny (model prog w) A (call (.type "enumerate") [.ref l]) (fun xv s₁ => wpAny (model prog w) A (pyIter xv) (fun it s₂ => TurnsAt prog w A g env (.Tuple [.Name xa pa, .Name xb pb] kk tp) body Q E it s₂) E s₁) E s := by
  have hax := N _ hl
  have hL : s.heap.IsList l vs.toArray := ⟨ol, hax.1, hoc, k, hod⟩
  have hlt : l < s.heap.objs.size := Heap.lt_size hax.1
  refine call_enumerate_list hL fun h' hE hI hsz' up => ?_
  refine wpAny_pyIter_enum hE ?_
  have W := (WalksT.enumerate (prog := prog) (w := w) hh (s.heap.objs.size + 1) s.heap.objs.size l (Nat.succ_ne_self _) (Nat.ne_of_lt (Nat.lt_succ_of_lt hlt)) (Nat.ne_of_lt hlt) vs.toArray).toU
  have n0 : s.heap.get? s.heap.objs.size = none := get?_none_ge (Nat.le_refl _)
  have n1 : s.heap.get? (s.heap.objs.size + 1) = none := get?_none_ge (Nat.le_succ _)
  have g0 : g.get? s.heap.objs.size = none := none_of_up' F.keep n0
  have g1 : g.get? (s.heap.objs.size + 1) = none := none_of_up' F.keep n1
  have hLlt := F.ns.lt
  generalize hi0 : s.heap.objs.size = it0 at *
  refine for_core (s := { s with heap := h' }) (KTurns.ofWalksU W) (fun q => ?_) (fun b hb => ?_) (fun p hp q => ?_) ⟨⟨_, hE⟩, hI, hL.at fun o e => up _ o e⟩ (F.keeps up) (N.grown up) J h0 (fun b hb hn => ⟨ol, ?_⟩) ?_ (fun h tk m₁ news₁ F' N' hJ => done h tk m₁ news₁ F' N' (by simpa using hJ))
  · rcases List.mem_cons.mp q with q | q
    · rw [q] at hLlt; exact absurd hLlt (Nat.not_lt.mpr (Nat.le_succ _))
    · rcases List.mem_cons.mp q with q | q
      · rw [q] at hLlt; exact Nat.lt_irrefl _ hLlt
      · exact hax.2.1 (List.mem_singleton.mp q).symm
  · rcases List.mem_cons.mp hb with rfl | hb
    · exact g1
    · rw [List.mem_singleton.mp hb]; exact g0
  · have := (N p hp).1
    rcases List.mem_cons.mp q with q | q
    · rw [q, n1] at this; cases this
    · rw [List.mem_singleton.mp q, n0] at this; cases this
  · left
    have : b = l := by
      rcases List.mem_cons.mp hb with rfl | hb
      · exact absurd (.head _) hn
      · rcases List.mem_cons.mp hb with rfl | hb
        · exact absurd (.tail _ (.head _)) hn
        · exact List.mem_singleton.mp hb
    rw [this]; exact hJl
  · rintro i v m₁ news₁ h tk own hi hst' ⟨T, vals, rfl, ⟨t, x, hx, rfl⟩, hT⟩ hJ hw hown hcov F₁ N₁
    obtain ⟨⟨old, he⟩, ⟨oi, hoi, _⟩, _⟩ := hst'
    obtain ⟨oe, hoe⟩ : ∃ oe, h.get? (it0 + 1) = some oe := ⟨_, he⟩
    have m1 := hcov _ (.head _) _ hoe
    have m0 := hcov _ (.tail _ (.head _)) _ hoi
    refine kcp_assign hh hT hxa hxb hp F₁.ns fun h₂ tk₂ hn₂ hk₂ => ?_
    have gL : g.get? env.locals = none := Heap.get?_none_of_le F₁.above
    have F₂ : Fr g env.locals h₂ _ := ⟨hn₂, fun b o e => hk₂ b o (fun q => by rw [q, gL] at e; cases e) (F₁.keep b o e), F₁.above⟩
    have N₂ : News g env.locals h₂ (own ++ news₁) := fun p hp => ⟨hk₂ _ _ (N₁ p hp).2.1 (N₁ p hp).1, (N₁ p hp).2⟩
    refine wpAny_mono (turn i x t m₁ news₁ h₂ tk₂ (it0 + 1) oe it0 oi (by simpa using hx) hJ (fun p hp => ⟨fun q => hw p hp (q ▸ .head _), fun q => hw p hp (q ▸ .tail _ (.head _))⟩) g1 g0 F₂ (fun p hp => ?_)) (fun f s₄ h₄ => ?_) fun _ _ e => e
    · rcases List.mem_cons.mp hp with rfl | hp
      · exact N₂ _ (List.mem_append_left _ m1)
      · rcases List.mem_cons.mp hp with rfl | hp
        · exact N₂ _ (List.mem_append_left _ m0)
        · exact N₂ _ (List.mem_append_right _ hp)
    · have fin : (∃ h' tk' m' news', s₄ = { s with heap := h', toks := tk' } ∧ Fr g env.locals h' m' ∧ News g env.locals h' ([(it0 + 1, oe), (it0, oi)] ++ news') ∧ (∀ p ∈ news', p.1 ∉ [it0 + 1, it0]) ∧ J (i + 1) m' news') →
          ∃ h' tk' m' news', s₄ = { s with heap := h', toks := tk' } ∧ Fr g env.locals h' m' ∧ News g env.locals h' (own ++ news') ∧ (∀ p ∈ news', p.1 ∉ [it0 + 1, it0]) ∧ J (i + 1) m' news' := by
        rintro ⟨h'', tk', m', news', rfl, F', N', hw', hJ'⟩
        refine ⟨h'', tk', m', news', rfl, F', fun p hp => ?_, hw', hJ'⟩
        rcases List.mem_append.mp hp with q | q
        · have hpn := (N₁ p (List.mem_append_left _ q)).1
          rcases List.mem_cons.mp (hown p q) with e1 | e1
          · have e2 : p.2 = oe := by rw [e1, hoe] at hpn; exact (Option.some.inj hpn).symm
            rw [show p = (it0 + 1, oe) from Prod.ext e1 e2]
            exact N' _ (.head _)
          · have e1 := List.mem_singleton.mp e1
            have e2 : p.2 = oi := by rw [e1, hoi] at hpn; exact (Option.some.inj hpn).symm
            rw [show p = (it0, oi) from Prod.ext e1 e2]
            exact N' _ (.tail _ (.head _))
        · exact N' p (List.mem_append_right _ q)
      cases f with
      | ret v => exact h₄
      | brk => exact h₄
      | next => exact fin h₄
      | cont => exact fin h₄
end
end Mine
end

-- D1
section
open PySem PySem.W PyProof.Rows PySem.Calls PyProof.V
set_option Elab.async false
set_option maxRecDepth 100000
set_option linter.unusedVariables false
namespace Mine
/-- the plain data -/
def colsHash (W D : Nat) (cs : Nat → Nat) : List Int := (List.range D).map fun i => ((cs i + W * i : Nat) : Int)
def binsOf (W D : Nat) (cell : Nat → Nat → Int) : List Int := (List.range (W * D)).map fun k => cell (k / W) (k % W)
def picks (D : Nat) (cell : Nat → Nat → Int) (cs : Nat → Nat) : List Int := (List.range D).map fun i => cell i (cs i)
def lmin : List Int → Int
  | [] => 0
  | a :: r => r.foldl min a
theorem foldl_min_le : ∀ (r : List Int) (a : Int), r.foldl min a ≤ a ∧ ∀ x ∈ r, r.foldl min a ≤ x
  | [], a => ⟨Int.le_refl _, by simp⟩
  | b :: r, a => by
    obtain ⟨h1, h2⟩ := foldl_min_le r (min a b)
    refine ⟨by simp only [List.foldl_cons]; omega, fun x hx => ?_⟩
    simp only [List.foldl_cons]
    rcases List.mem_cons.mp hx with rfl | hx
    · omega
    · exact h2 x hx
theorem foldl_min_mem : ∀ (r : List Int) (a : Int), r.foldl min a = a ∨ r.foldl min a ∈ r
  | [], a => .inl rfl
  | b :: r, a => by
    simp only [List.foldl_cons]
    rcases foldl_min_mem r (min a b) with h | h
    · rw [h]
      rcases Int.le_total a b with q | q
      · left; omega
      · right; rw [show min a b = b by omega]; exact .head _
    · exact .inr (.tail _ h)
theorem lmin_le {l : List Int} : ∀ x ∈ l, lmin l ≤ x := by
  intro x hx
  cases l with
  | nil => cases hx
  | cons a r =>
    rcases List.mem_cons.mp hx with rfl | hx
    · exact (foldl_min_le r x).1
    · exact (foldl_min_le r a).2 x hx
theorem lmin_mem {l : List Int} (h : l ≠ []) : lmin l ∈ l := by
  cases l with
  | nil => exact absurd rfl h
  | cons a r =>
    rcases foldl_min_mem r a with q | q
    · show r.foldl min a ∈ _; rw [q]; exact .head _
    · exact .tail _ q
theorem lmin_eq {l : List Int} {M : Int} (hm : M ∈ l) (hle : ∀ x ∈ l, M ≤ x) : M = lmin l := by
  have h1 := lmin_le M hm
  have h2 := hle _ (lmin_mem (fun q => by rw [q] at hm; cases hm))
  omega
/-- the head of a list in order is its least -/
theorem head_sorted {l l' : List Int} (hp : List.Perm l' l) (hs : List.Pairwise (fun x y => x ≤ y) l') (h : l ≠ []) : ∃ r, l' = lmin l :: r := by
  cases l' with
  | nil => exact absurd (List.Perm.nil_eq hp).symm h
  | cons a r =>
    refine ⟨r, ?_⟩
    have hm : a ∈ l := hp.mem_iff.mp (.head _)
    have := lmin_eq hm fun x hx => by
      rcases List.mem_cons.mp (hp.mem_iff.mpr hx) with rfl | q
      · exact Int.le_refl _
      · exact (List.pairwise_cons.mp hs).1 x q
    rw [this]
theorem idx_lt {W D i c : Nat} (hi : i < D) (hc : c < W) : c + W * i < W * D := by
  have h1 : W * (i + 1) ≤ W * D := Nat.mul_le_mul_left _ hi
  rw [Nat.mul_succ] at h1
  omega
theorem idx_div {W i c : Nat} (hc : c < W) : (c + W * i) / W = i := by
  rw [Nat.add_mul_div_left _ _ (by omega), Nat.div_eq_of_lt hc, Nat.zero_add]
theorem idx_mod {W i c : Nat} (hc : c < W) : (c + W * i) % W = c := by
  rw [Nat.add_mul_mod_self_left, Nat.mod_eq_of_lt hc]
theorem binsOf_get {W D i c : Nat} {cell : Nat → Nat → Int} (hi : i < D) (hc : c < W) : (binsOf W D cell)[c + W * i]? = some (cell i c) := by
  simp [binsOf, idx_lt hi hc, idx_div hc, idx_mod hc]
theorem colsHash_get {W D i : Nat} {cs : Nat → Nat} (hi : i < D) : (colsHash W D cs)[i]? = some ((cs i + W * i : Nat) : Int) := by
  simp [colsHash, hi]
theorem picks_get {D i : Nat} {cell : Nat → Nat → Int} {cs : Nat → Nat} (hi : i < D) : (picks D cell cs)[i]? = some (cell i (cs i)) := by
  simp [picks, hi]
theorem ints_of {n : Nat} {ys : List Value} {f : Nat → Int} (hl : ys.length = n) (h : ∀ (i : Nat) (y : Value), ys[i]? = some y → ∃ t, y = .int (f i) t) : IntsAre ys ((List.range n).map f) := by
  subst hl
  induction ys generalizing f with
  | nil => exact .nil
  | cons y r ih =>
    obtain ⟨t, rfl⟩ := h 0 y rfl
    rw [List.length_cons, List.range_succ_eq_map, List.map_cons, List.map_map]
    exact .cons _ t (ih fun i y e => h (i + 1) y (by simpa using e))
theorem ints_at {ys : List Value} {ns : List Int} (h : IntsAre ys ns) {i : Nat} {v : Value} {k : Int} (e : ys[i]? = some v) (hk : ns[i]? = some k) : ∃ t, v = .int k t := by
  obtain ⟨n, t, rfl, hn⟩ := h.at i v e
  rw [hk] at hn; cases hn; exact ⟨t, rfl⟩
def bump (cell : Nat → Nat → Int) (cs : Nat → Nat) (n : Int) : Nat → Nat → Int := fun r c => if c = cs r then cell r c + n else cell r c
def bumpTo (i : Nat) (cell : Nat → Nat → Int) (cs : Nat → Nat) (n : Int) : Nat → Nat → Int := fun r c => if r < i ∧ c = cs r then cell r c + n else cell r c
theorem bumpTo_zero {cell : Nat → Nat → Int} {cs : Nat → Nat} {n : Int} : bumpTo 0 cell cs n = cell := by
  funext r c; simp [bumpTo]
theorem binsOf_congr {W D : Nat} {f g : Nat → Nat → Int} (h : ∀ r c, r < D → f r c = g r c) : binsOf W D f = binsOf W D g := by
  unfold binsOf
  refine List.map_congr_left fun k hk => h _ _ ?_
  have hk' : k < W * D := by simpa using hk
  exact Nat.div_lt_of_lt_mul hk'
theorem bumpTo_all {W D : Nat} {cell : Nat → Nat → Int} {cs : Nat → Nat} {n : Int} : binsOf W D (bumpTo D cell cs n) = binsOf W D (bump cell cs n) :=
  binsOf_congr fun r c hr => by simp [bumpTo, bump, hr]
theorem bumpTo_set {W D i : Nat} {cell : Nat → Nat → Int} {cs : Nat → Nat} {n : Int} (hi : i < D) (hc : cs i < W) :
    (binsOf W D (bumpTo i cell cs n)).set (cs i + W * i) (cell i (cs i) + n) = binsOf W D (bumpTo (i + 1) cell cs n) := by
  have hW : 0 < W := Nat.lt_of_le_of_lt (Nat.zero_le _) hc
  refine List.ext_getElem (by simp [binsOf]) fun k h1 h2 => ?_
  have hk : k < W * D := by simpa [binsOf] using h2
  rw [List.getElem_set]
  simp only [binsOf, List.getElem_map, List.getElem_range]
  by_cases hq : cs i + W * i = k
  · subst hq
    rw [if_pos rfl, idx_div hc, idx_mod hc]
    simp [bumpTo]
  · rw [if_neg hq]
    unfold bumpTo
    have hdm := Nat.div_add_mod k W
    by_cases h3 : k / W < i ∧ k % W = cs (k / W)
    · rw [if_pos h3, if_pos ⟨by omega, h3.2⟩]
    · rw [if_neg h3, if_neg]
      rintro ⟨h4, h5⟩
      have h6 : k / W = i := by
        rcases Nat.lt_or_ge (k / W) i with q | q
        · exact absurd ⟨q, h5⟩ h3
        · omega
      rw [h6] at h5 hdm
      exact hq (by rw [← h5]; omega)
theorem ints_set {ys : List Value} {ns : List Int} (h : IntsAre ys ns) (i : Nat) (k : Int) (t : Tok) : IntsAre (ys.set i (.int k t)) (ns.set i k) := by
  induction h generalizing i with
  | nil => exact .nil
  | cons n t' hr ih =>
    cases i with
    | zero => exact .cons k t hr
    | succ i => exact .cons n t' (ih i)
theorem picks_bump {D : Nat} {cell : Nat → Nat → Int} {cs : Nat → Nat} {n : Int} : (List.range D).map (fun i => cell i (cs i) + n) = picks D (bump cell cs n) cs := by
  simp [picks, bump]
end Mine
end

-- GT
section
open PySem PySem.W PyProof.Rows PySem.Calls PyProof.V
set_option Elab.async false
set_option maxRecDepth 100000
set_option linter.unusedVariables false
namespace Mine
theorem slot_md_get : Slot "method_descriptor" "__get__" "method_descriptor.__get__" :=
  .of (owner := "method_descriptor") (n := "__get__") (by rw [typeLookup_type, builtinLookup_eq_fast]; kernel_rfl) (by decide +kernel) (by decide +kernel) (by decide +kernel)
    (by first | exact .inl (by decide +kernel) | exact .inr (by decide +kernel)) (by rw [isSubtype_type]; kernel_rfl)
theorem entry_md_get : entryFor table "method_descriptor.__get__" = some Builtin.«method_descriptor.__get__» := entryFor_of_tree (by kernel_rfl)
theorem args_md_get (a b c : Value) : argsOk "method_descriptor.__get__" ⟨[a, b, c], []⟩ := by unfold argsOk; kernel_rfl
theorem md_set : typeLookup (.type "method_descriptor") "__set__" = pure none := by rw [typeLookup_type, builtinLookup_eq_fast]; kernel_rfl
theorem md_del : typeLookup (.type "method_descriptor") "__delete__" = pure none := by rw [typeLookup_type, builtinLookup_eq_fast]; kernel_rfl
abbrev boundGet (td : Addr) : Obj := { cls := .type "builtin_function_or_method", data := .fields #[.builtin "dict.get", .ref td] }
theorem owner_dg : (kfb_private% "ownerAndName") "dict.get" = ("dict", "get") := by first | decide +kernel | kernel_rfl
section
variable {prog : Program} {w : World} {A : Around} {E : Value → Shared → Prop} {h : Heap} {g : Array GenState} {d : Drawn} {t : Nat} {os : OsState} {a : Addr} {o : Obj} {es : Array DictEntry} {k : Nat} {sl : Array (Option Value)}
theorem md_run {M : Model} {P : Fin → Shared → Prop} (hx : h.get? a = some ⟨.type "dict", none, .dict es k, sl⟩) (hp : P (.done (.ret (.ref h.objs.size))) ⟨h.push (boundGet a), g, d, t, os⟩) :
    wpAny M A (Builtin.«method_descriptor.__get__» ⟨[.builtin "dict.get", .ref a, .type "dict"], []⟩) P E ⟨h, g, d, t, os⟩ := by
  have hT : (⟨h, g, d, t, os⟩ : Shared).TypeIs (.ref a) "dict" := ⟨_, hx, rfl⟩
  unfold Builtin.«method_descriptor.__get__»
  refine wpAny_bind (wpAny_of_eq (a := (.builtin "dict.get", some (.ref a), some (.type "dict"))) (by first | rfl | kernel_rfl) ?_)
  dsimp only
  refine KFB.if_not (by decide +kernel) ?_
  show wpAny M A ((kfb_private% "bindBuiltin") "builtin_function_or_method" (.builtin "dict.get") (some (.ref a))) P E _
  show wpAny M A (do (kfb_private% "checkInstance") (.builtin "dict.get") (.ref a); ret (← newFields "builtin_function_or_method" [.builtin "dict.get", .ref a])) P E _
  refine wpAny_bind ?_
  show wpAny M A ((kfb_private% "nameAndClass") (.builtin "dict.get") >>= _) _ E _
  refine wpAny_bind (wpAny_of_eq (a := (Str.ofString "get", .type "dict")) (by show (pure ((((kfb_private% "ownerAndName") "dict.get").2 : Str), Value.type ((kfb_private% "ownerAndName") "dict.get").1) : Sem (Str × Value)) = _; rw [owner_dg]) ?_)
  dsimp only
  have f9 : isSubtype (.type "dict") (.type "dict") = pure true := by rw [isSubtype_type]; kernel_rfl
  repeat (any_goals (first | assumption | wp_step))
theorem get_entry {tk : Tok} {Q : Fin → Shared → Prop} (hx : h.get? a = some ⟨.type "dict", none, .dict es k, sl⟩) (hq : Q (.done (.ret (.ref h.objs.size))) ⟨h.push (boundGet a), g, d, t, os⟩) :
    wpAny (model prog w) A (Builtin.«object.__getattribute__» ⟨[.ref a, .str "get" tk], []⟩) Q E ⟨h, g, d, t, os⟩ := by
  have hT : (⟨h, g, d, t, os⟩ : Shared).TypeIs (.ref a) "dict" := ⟨_, hx, rfl⟩
  have f4 := PySem.F.slot_dict_get.lookup
  have f5 := PySem.F.type_dict_get
  have f6 := slot_md_get.lookup
  have f7 := md_set
  have f8 := md_del
  have hT5 : (⟨h, g, d, t, os⟩ : Shared).TypeIs (.builtin "dict.get") "method_descriptor" := f5
  unfold Builtin.«object.__getattribute__»
  repeat (any_goals (first | assumption | wp_step))
  refine codeAny_call_builtin slot_md_get.plain entry_md_get (slot_md_get.check _ _ _ _ _ _ _ _ hT5 (args_md_get _ _ _) (md_run hx ?_))
  show wpAny _ _ (ret _) _ _ _
  repeat (any_goals (first | assumption | wp_step))
theorem dict_get_attr {s : Shared} {Q : Value → Shared → Prop} (hx : s.heap.get? a = some ⟨.type "dict", none, .dict es k, sl⟩) (h : Q (.ref s.heap.objs.size) { s with heap := s.heap.push (boundGet a), toks := s.toks + 1 }) :
    wpAny (model prog w) A (getAttr (.ref a) (Str.ofString "get") true) Q E s := by
  obtain ⟨hp, g, d, tk, os⟩ := s
  have hT : ∀ tk', (⟨hp, g, d, tk', os⟩ : Shared).TypeIs (.ref a) "dict" := fun _ => ⟨_, hx, rfl⟩
  have f3 := PySem.F.slot_dict_getattribute.lookup
  have f4 := PySem.F.slot_dict_getattribute.bind (.ref a)
  have f5 := am_dict_getattr_none
  unfold getAttr getAttrBy
  repeat (any_goals (first | assumption | exact hT _ | wp_step))
  refine codeAny_call_builtin PySem.F.slot_dict_getattribute.plain am_entry_dict_getattribute (PySem.F.slot_dict_getattribute.check _ _ _ _ _ _ _ _ (hT _) (PySem.F.args_dict_getattribute_2 _ _) (get_entry hx ?_))
  show wpAny _ _ (handedOut _) _ _ _
  repeat (any_goals (first | assumption | wp_step))
end
theorem valueAt_of_get {kvs : List (Str × Value)} (hn : (kvs.map (·.1)).Nodup) : ∀ {i : Nat} {k : Str} {v : Value}, kvs[i]? = some (k, v) → valueAt kvs k = some v := by
  induction kvs with
  | nil => intro i k v e; cases i <;> cases e
  | cons p r ih =>
    intro i k v e
    rw [List.map_cons, List.nodup_cons] at hn
    cases i with
    | zero => cases e; simp [valueAt]
    | succ i =>
      have e' : r[i]? = some (k, v) := e
      have hk : ¬ p.1 = k := fun q => hn.1 (List.mem_map.mpr ⟨(k, v), List.mem_of_getElem? e', q.symm⟩)
      have := ih hn.2 e'
      simpa [valueAt, List.find?_cons, hk] using this
section
variable {prog : Program} {w : World} {A : Around} {E : Value → Shared → Prop} {s : Shared} {td q : Addr} {kvs : List (Str × Value)}
theorem callAny_bound {M : Model} {f : String} {self : Value} {args : Args} {Q : Fin → Shared → Prop} (ho : s.heap.get? q = some { cls := .type "builtin_function_or_method", data := .fields #[.builtin f, self] }) (hc : ∀ {Q : Unit → Shared → Prop}, Q () s → wpAny M A (checkBoundCall f ⟨self :: args.pos, args.kw⟩) Q E s)
    (h : Q (.again (.builtin f ⟨self :: args.pos, args.kw⟩)) s) : wpAny M A (callAny (.ref q) args) Q E s := by
  simp only [callAny]
  refine wpAny_bind (wpAny_load ho ?_)
  simp only [show (Value.type "builtin_function_or_method" == Value.type "method" || Value.type "builtin_function_or_method" == Value.type "builtin_function_or_method" || Value.type "builtin_function_or_method" == Value.type "method-wrapper") = true by decide, if_true]
  refine KFB.if_so (by decide) ?_
  refine wpAny_bind (hc ?_)
  exact wpAny_bind (wpAny_pure (wpAny_pure h))
theorem sub_dict_module : isSubtype (.type "dict") (.type "module") = pure false := by rw [isSubtype_type]; kernel_rfl
theorem chk_dget {M : Model} {v : Value} {es : Array DictEntry} {ep : Nat} {o : Obj} {Q : Unit → Shared → Prop} (ho : s.heap.get? td = some o) (hoc : o.cls = .type "dict") (hod : o.data = .dict es ep) (h : Q () s) : wpAny M A (checkBoundCall "dict.get" ⟨[.ref td, v], []⟩) Q E s := by
  unfold checkBoundCall
  have hsig : Manifest.signature? "dict.get" = some ⟨.positional, "dict.get", "get", .self, [⟨"key", .posOnly, true⟩, ⟨"default", .posOnly, false⟩]⟩ := by kernel_rfl
  have hk : builtinKind "dict.get" = some .method := by kernel_rfl
  have f1 := sub_dict_module
  have hT : s.TypeIs (.ref td) "dict" := ⟨_, ho, hoc⟩
  simp only [hsig, hk]
  refine wpAny_bind (wpAny_isInstance hT f1 ?_)
  refine KFB.if_not (by decide +kernel) ?_
  obtain ⟨hp, g, d, tk, os⟩ := s
  obtain ⟨c, dct, dat, sl⟩ := o
  simp only at hoc hod
  subst hoc hod
  repeat (any_goals (first | assumption | wp_step))
theorem call_bget {k : Str} {t : Tok} {v : Value} {Q : Value → Shared → Prop} (lo : (td == sysModules) = false) (ho : s.heap.get? q = some (boundGet td)) (hd : s.heap.DictOf (strKind prog w) td kvs) (hv : valueAt kvs k = some v) (h : Q v { s with toks := s.toks + 1 }) :
    wpAny (model prog w) A (call (.ref q) [.str k t]) Q E s := by
  refine wpAny_call (codeAny_of_tree ?_)
  show wpAny _ A.in1 (callAny (.ref q) ⟨[.str k t], []⟩) _ _ s
  refine callAny_bound ho (fun z => (let ⟨_, _, _, a, b, c, _⟩ := hd; chk_dget a b.1 c z)) ?_
  refine ⟨Code.quiet_builtin _ (by decide +kernel), codeAny_builtin PySem.F.entry_dict_get ?_⟩
  have := meets_dict_get (strKind prog w) td (strKind_is prog w k t) lo
  rw [Around.under_plainId (by decide +kernel) _]
  exact this A (wants Q E) s ⟨_, hd.mapOf, by rw [hv]; exact h⟩
/-- the loop of min over the keys of a dict, by what the dict holds -/
theorem min_get_loop (kf : Nat → Int) {I S : Addr} {ep : Nat} (hh : A.handled = none) (lo : (td == sysModules) = false) (hq : s.heap.get? q = some (boundGet td)) (hd : s.heap.DictAt (strKind prog w) td kvs ep) (hI : s.heap.get? I = none) (hS : s.heap.get? S = none) (hSI : S ≠ I)
    (hkf : ∀ (i : Nat) (k : Str) (v : Value), kvs[i]? = some (k, v) → ∃ t, v = Value.int (kf i) t) {R : Result → Shared → Prop}
    (hR : ∀ i k v t h' tk', kvs[i]? = some (k, v) → (∀ j, j < kvs.length → kf i ≤ kf j ∧ (j < i → kf i < kf j)) → Kp [] s.heap h' → R (.ok (.ret (.str k t))) { s with heap := h', toks := tk' }) :
    ∀ (r j i : Nat) (h : Heap) (tk : Nat) (k : Str) (v : Value) (tb tv : Tok) (c : Nat), kvs.length - (j + 1) = r → j + 1 ≤ kvs.length → (∀ b o, s.heap.get? b = some o → h.get? b = some o) →
      h.get? S = some (seqObj "list" #[.str k tv, .int (kf i) tb] c) → h.IsKeyIter I td (j + 1) kvs.length ep → kvs[i]? = some (k, v) → i ≤ j → (∀ j', j' ≤ j → kf i ≤ kf j' ∧ (j' < i → kf i < kf j')) →
      codeAny (model prog w) A (.builtin "min.loop" ⟨[.ref I, .ref q, .ref S], []⟩) R { s with heap := h, toks := tk } := by
  have hname : (toString "min" ++ toString ".loop" : String) = "min.loop" := by decide
  have hdI : td ≠ I := fun e => by obtain ⟨_, _, a, _⟩ := hd; rw [e, hI] at a; cases a
  have W := Walks.dictKeys (prog := prog) (w := w) (A := A.in1) (knd := strKind prog w) hh I td hdI kvs ep
  have kI : ∀ {h h' : Heap}, (∀ b o, s.heap.get? b = some o → h.get? b = some o) → (∀ b o, b ∉ [I] → h.get? b = some o → h'.get? b = some o) → ∀ b o, s.heap.get? b = some o → h'.get? b = some o :=
    fun k k' b o e => k' b o (fun q => by rw [List.mem_singleton.mp q, hI] at e; cases e) (k b o e)
  have kS : ∀ {h : Heap} {f : Obj → Obj}, (∀ b o, s.heap.get? b = some o → h.get? b = some o) → ∀ b o, s.heap.get? b = some o → (h.update S f).get? b = some o :=
    fun {h f} k b o e => by rw [(Heap.SameBut.update h S f).2 b (fun q => by rw [q, hS] at e; cases e)]; exact k b o e
  intro r
  induction r with
  | zero =>
    intro j i h tk k v tb tv c hr hj up nS hit hvb hij hbest
    have hin : j + 1 = kvs.length := by omega
    refine codeAny_builtin PySem.F.entry_min_loop ?_
    rw [Around.under_plainId PySem.F.plain_min_loop _]
    show wpAny _ A.in1 (seqItems? (.ref S) >>= _) _ _ _
    refine wpAny_bind (wpAny_seqItems nS rfl ?_)
    show wpAny _ A.in1 (tryCatch (pyNext (.ref I)) _ >>= _) _ _ _
    refine wpAny_bind (wpAny_tryCatch (W.done _ _ _ ⟨by rw [← hin]; rw [← hin] at hit; exact hit, hd.keep up⟩ fun h' tk' hk' => ?_))
    have hS' := hk' S _ (by simpa using hSI) nS
    show wpAny _ A.in1 (updateSeq S (fun _ => #[]) >>= _) _ _ _
    refine wpAny_bind ?_
    refine wpAny_updateSeq hS' rfl (wpAny_bind (wpAny_letGo (wpAny_pure ?_)))
    exact hR i k v _ _ _ hvb (fun j' hj' => hbest j' (by omega)) (fun b o e _ => kS (kI up hk') b o e)
  | succ r ih =>
    intro j i h tk k v tb tv c hr hj up nS hit hvb hij hbest
    have hlt : j + 1 < kvs.length := by omega
    refine codeAny_builtin PySem.F.entry_min_loop ?_
    rw [Around.under_plainId PySem.F.plain_min_loop _]
    show wpAny _ A.in1 (seqItems? (.ref S) >>= _) _ _ _
    refine wpAny_bind (wpAny_seqItems nS rfl ?_)
    show wpAny _ A.in1 (tryCatch (pyNext (.ref I)) _ >>= _) _ _ _
    refine wpAny_bind (wpAny_tryCatch (W.item (j + 1) _ _ _ hlt ⟨hit, hd.keep up⟩ fun v' h' tk' hP hst' hk' => ?_))
    obtain ⟨k', x', hx', hv'⟩ := hP
    obtain ⟨tk1, rfl⟩ := Value.isStrOf_shape hv'
    obtain ⟨tx, rfl⟩ := hkf _ _ _ hx'
    have up1 := kI up hk'
    have nS1 := hk' S _ (by simpa using hSI) nS
    show wpAny _ A.in1 (tryCatch (holding [_] (call (.ref q) [.str k' tk1])) _ >>= _) _ _ _
    refine wpAny_bind (wpAny_tryCatch (wpAny_holding (call_bget lo (up1 _ _ hq) (hd.dictOf.keep up1) (valueAt_of_get hd.nodup hx') ?_)))
    show wpAny _ A.in1 (tryCatch (holding [.str k' tk1, .int (kf (j + 1)) tx] (richCompare .Lt (.int (kf (j + 1)) tx) (.int (kf i) tb) >>= _)) _ >>= _) _ _ _
    refine wpAny_bind (wpAny_tryCatch (wpAny_holding (wpAny_bind (CmpOf.ints_lt (prog := prog) (w := w) (A := A.in1) (P := fun i v => ∃ t, v = .int (kf i) t) kf (fun i v h => h) (j + 1) i _ _ _ _ _ ⟨tx, rfl⟩ ⟨tb, rfl⟩ ?_))))
    refine wpAny_bind (wpAny_holding (wpAny_truthy_bool ?_))
    refine wpAny_bind (wpAny_letGo (wpAny_pure ?_))
    by_cases hb' : kf (j + 1) < kf i
    · obtain ⟨c2, hc2⟩ : ∃ c2, (h'.update S (Obj.mapSeq fun _ => #[.str k' tk1, .int (kf (j + 1)) tx])).get? S = some (seqObj "list" #[.str k' tk1, .int (kf (j + 1)) tx] c2) := ⟨_, get?_update_seq nS1 fun _ => #[.str k' tk1, .int (kf (j + 1)) tx]⟩
      simp only [hb', decide_true, if_true]
      refine wpAny_bind ?_
      refine wpAny_updateSeq nS1 rfl (wpAny_bind (wpAny_letGo ?_))
      rw [hname]
      refine wpAny_pure ⟨plainId_quiet PySem.F.plain_min_loop _, ih (j + 1) (j + 1) _ _ k' _ tx tk1 c2 (by omega) hlt (kS up1) hc2 ?_ hx' (Nat.le_refl _) fun j' hj' => ?_⟩
      · obtain ⟨oI, hoI, hoc, hod⟩ := hst'.1
        exact ⟨oI, by rw [(Heap.SameBut.update h' S _).2 I hSI.symm]; exact hoI, hoc, hod⟩
      · by_cases e : j' = j + 1
        · subst e
          exact ⟨by omega, fun _ => by omega⟩
        · have hb1 := hbest j' (by omega)
          have hb2 := hb1.1
          exact ⟨by omega, fun _ => by omega⟩
    · simp only [hb', decide_false, Bool.false_eq_true, if_false]
      refine wpAny_bind (wpAny_letGo ?_)
      rw [hname]
      refine wpAny_pure ⟨plainId_quiet PySem.F.plain_min_loop _, ih (j + 1) i _ _ k v tb tv c (by omega) hlt up1 nS1 hst'.1 hvb (by omega) fun j' hj' => ?_⟩
      by_cases e : j' = j + 1
      · subst e
        exact ⟨by omega, fun _ => by omega⟩
      · exact hbest j' (by omega)
theorem min_get (kf : Nat → Int) (hh : A.handled = none) (lo : (td == sysModules) = false) (hq : s.heap.get? q = some (boundGet td)) (hd : s.heap.DictOf (strKind prog w) td kvs) (hne : 0 < kvs.length)
    (hkf : ∀ (i : Nat) (k : Str) (v : Value), kvs[i]? = some (k, v) → ∃ t, v = Value.int (kf i) t) {Q : Value → Shared → Prop}
    (hQ : ∀ i k v t h' tk', kvs[i]? = some (k, v) → (∀ j, j < kvs.length → kf i ≤ kf j ∧ (j < i → kf i < kf j)) → Kp [] s.heap h' → Q (.str k t) { s with heap := h', toks := tk' }) :
    wpAny (model prog w) A (call (.builtin "min") [.ref td] [(Str.ofString "key", .ref q)]) Q E s := by
  have hname : (toString "min" ++ toString ".loop" : String) = "min.loop" := by decide
  obtain ⟨ep, hd⟩ := hd.dictAt
  refine kmk_tree PySem.F.kind_min PySem.F.plain_min PySem.F.entry_min (kmk_min_key _ _) ?_
  show wpAny _ A.in1 (Builtin.Builtins.bindParams "min" ["key", "default"] 0 ⟨[], [(Str.ofString "key", .ref q)]⟩ >>= _) _ _ s
  refine wpAny_bind (wpAny_of_eq (show Builtin.Builtins.bindParams "min" ["key", "default"] 0 ⟨[], [(Str.ofString "key", .ref q)]⟩ = pure [some (.ref q), none] from rfl) ?_)
  refine wpAny_bind (wpAny_pure ?_)
  refine wpAny_bind (wpAny_pyIter_dict lo hd ?_)
  refine wpAny_bind (wpAny_newList ?_ (Nat.zero_le _))
  rw [hname]
  have n0 : s.heap.get? s.heap.objs.size = none := Heap.get?_none_of_le (Nat.le_refl _)
  generalize hH1 : s.heap.push { cls := .type "dict_keyiterator", data := .fields #[.ref td, .int 0 0, .int kvs.length 0, .int ep 0] } = H1
  have hS : H1.objs.size = s.heap.objs.size + 1 := by rw [← hH1]; exact size_push' ..
  have hSI : H1.objs.size ≠ s.heap.objs.size := by rw [hS]; exact Nat.ne_of_gt (Nat.lt_succ_self _)
  have nS : s.heap.get? H1.objs.size = none := Heap.get?_none_of_le (by rw [hS]; exact Nat.le_succ _)
  refine wpAny_pure ⟨plainId_quiet PySem.F.plain_min_loop _, ?_⟩
  have up : ∀ b o, s.heap.get? b = some o → (H1.push (seqObj "list" #[] 0)).get? b = some o := fun b o e => Heap.get?_push_of_some _ (by rw [← hH1]; exact Heap.get?_push_of_some _ e)
  have gI : (H1.push (seqObj "list" #[] 0)).get? s.heap.objs.size = some { cls := .type "dict_keyiterator", data := .fields #[.ref td, .int 0 0, .int kvs.length 0, .int ep 0] } :=
    Heap.get?_push_of_some _ (by rw [← hH1]; exact Heap.get?_push_size _ rfl)
  have gS : (H1.push (seqObj "list" #[] 0)).get? H1.objs.size = some (seqObj "list" #[] 0) := Heap.get?_push_size _ rfl
  have hdI : td ≠ s.heap.objs.size := fun e => by obtain ⟨_, _, a, _⟩ := hd; rw [e, n0] at a; cases a
  have W := Walks.dictKeys (prog := prog) (w := w) (A := A.in1) (knd := strKind prog w) hh s.heap.objs.size td hdI kvs ep
  refine codeAny_builtin PySem.F.entry_min_loop ?_
  rw [Around.under_plainId PySem.F.plain_min_loop _]
  show wpAny _ A.in1 (seqItems? (.ref _) >>= _) _ _ _
  refine wpAny_bind (wpAny_seqItems gS rfl ?_)
  show wpAny _ A.in1 (tryCatch (pyNext (.ref s.heap.objs.size)) _ >>= _) _ _ _
  refine wpAny_bind (wpAny_tryCatch (W.item 0 _ _ _ hne ⟨⟨_, gI, rfl, rfl⟩, hd.keep up⟩ fun v h' tk' hP hst' hk' => ?_))
  obtain ⟨k', x', hx', hv'⟩ := hP
  obtain ⟨tk1, rfl⟩ := Value.isStrOf_shape hv'
  obtain ⟨tx, rfl⟩ := hkf _ _ _ hx'
  have up1 : ∀ b o, s.heap.get? b = some o → h'.get? b = some o := fun b o e => hk' b o (fun q => by rw [List.mem_singleton.mp q, n0] at e; cases e) (up b o e)
  have nS1 := hk' _ _ (by simpa using hSI) gS
  show wpAny _ A.in1 (tryCatch (holding [_] (call (.ref q) [.str k' tk1])) _ >>= _) _ _ _
  refine wpAny_bind (wpAny_tryCatch (wpAny_holding (call_bget lo (up1 _ _ hq) (hd.dictOf.keep up1) (valueAt_of_get hd.nodup hx') ?_)))
  obtain ⟨c2, hc2⟩ : ∃ c2, (h'.update H1.objs.size (Obj.mapSeq fun _ => #[.str k' tk1, .int (kf 0) tx])).get? H1.objs.size = some (seqObj "list" #[.str k' tk1, .int (kf 0) tx] c2) := ⟨_, get?_update_seq nS1 fun _ => #[.str k' tk1, .int (kf 0) tx]⟩
  have s1 := Heap.SameBut.update h' H1.objs.size (Obj.mapSeq fun _ => #[.str k' tk1, .int (kf 0) tx])
  show wpAny _ A.in1 (updateSeq H1.objs.size (fun _ => #[.str k' tk1, .int (kf 0) tx]) >>= _) _ _ _
  refine wpAny_bind ?_
  refine wpAny_updateSeq nS1 rfl ?_
  rw [hname]
  refine wpAny_pure ⟨plainId_quiet PySem.F.plain_min_loop _, min_get_loop kf hh lo hq hd n0 nS hSI hkf hQ _ 0 0 _ _ k' _ tx tk1 c2 rfl hne (fun b o e => ?_) hc2 ?_ hx' (Nat.le_refl _) fun j' hj' => ?_⟩
  · rw [s1.2 b (fun q => by rw [q, nS] at e; cases e)]; exact up1 b o e
  · obtain ⟨oI, hoI, hoc, hod⟩ := hst'.1
    exact ⟨oI, by rw [s1.2 _ hSI.symm]; exact hoI, hoc, hod⟩
  · have e : j' = 0 := by omega
    subst e
    exact ⟨by omega, fun h => absurd h (Nat.lt_irrefl _)⟩
end
end Mine
end

-- D3
section
open PySem PySem.W PyProof.Rows PySem.Calls PyProof.V
set_option Elab.async false
set_option maxRecDepth 100000
set_option linter.unusedVariables false
namespace Mine
/-- the book: the pairs of a dict, by name and number -/
inductive PairsAre : List (Str × Value) → List (Str × Int) → Prop
  | nil : PairsAre [] []
  | cons {kvs : List (Str × Value)} {b : List (Str × Int)} (k : Str) (n : Int) (t : Tok) : PairsAre kvs b → PairsAre ((k, .int n t) :: kvs) ((k, n) :: b)
theorem PairsAre.length {kvs : List (Str × Value)} {b : List (Str × Int)} (h : PairsAre kvs b) : kvs.length = b.length := by
  induction h with
  | nil => rfl
  | cons _ _ _ _ ih => simp [ih]
theorem PairsAre.keys {kvs : List (Str × Value)} {b : List (Str × Int)} (h : PairsAre kvs b) : kvs.map (·.1) = b.map (·.1) := by
  induction h with
  | nil => rfl
  | cons _ _ _ _ ih => simp [ih]
theorem PairsAre.get {kvs : List (Str × Value)} {b : List (Str × Int)} (h : PairsAre kvs b) : ∀ {i : Nat} {k : Str} {v : Value}, kvs[i]? = some (k, v) → ∃ n t, b[i]? = some (k, n) ∧ v = .int n t := by
  induction h with
  | nil => intro i k v e; cases i <;> cases e
  | cons k0 n t _ ih =>
    intro i k v e
    cases i with
    | zero => cases e; exact ⟨n, t, rfl, rfl⟩
    | succ i => exact ih e
theorem PairsAre.at {kvs : List (Str × Value)} {b : List (Str × Int)} (h : PairsAre kvs b) : ∀ {i : Nat} {k : Str} {n : Int}, b[i]? = some (k, n) → ∃ t, kvs[i]? = some (k, .int n t) := by
  induction h with
  | nil => intro i k v e; cases i <;> cases e
  | cons k0 n t _ ih =>
    intro i k v e
    cases i with
    | zero => cases e; exact ⟨t, rfl⟩
    | succ i => exact ih e
def inBook (b : List (Str × Int)) (k : Str) : Bool := b.any fun p => p.1 = k
def upsert (b : List (Str × Int)) (k : Str) (v : Int) : List (Str × Int) := if inBook b k then b.map (fun p => if p.1 = k then (p.1, v) else p) else b ++ [(k, v)]
theorem PairsAre.any {kvs : List (Str × Value)} {b : List (Str × Int)} (h : PairsAre kvs b) (k : Str) : kvs.any (fun kv => kv.1 = k) = inBook b k := by
  induction h with
  | nil => rfl
  | cons _ _ _ _ ih => simp only [inBook, List.any_cons] at ih ⊢; rw [ih]
theorem PairsAre.append {kvs : List (Str × Value)} {b : List (Str × Int)} (h : PairsAre kvs b) (k : Str) (v : Int) (t : Tok) : PairsAre (kvs ++ [(k, .int v t)]) (b ++ [(k, v)]) := by
  induction h with
  | nil => exact .cons _ _ _ .nil
  | cons _ _ _ _ ih => exact .cons _ _ _ ih
theorem PairsAre.put {kvs : List (Str × Value)} {b : List (Str × Int)} (h : PairsAre kvs b) (k : Str) (v : Int) (t : Tok) : PairsAre (kvs.map fun kv => if kv.1 = k then (kv.1, Value.int v t) else kv) (b.map fun p => if p.1 = k then (p.1, v) else p) := by
  induction h with
  | nil => exact .nil
  | cons k0 n t0 _ ih =>
    simp only [List.map_cons]
    split
    · exact .cons _ _ _ ih
    · exact .cons _ _ _ ih
theorem PairsAre.stored {kvs : List (Str × Value)} {b : List (Str × Int)} (h : PairsAre kvs b) (k : Str) (v : Int) (t : Tok) : PairsAre (stored kvs k (.int v t)) (upsert b k v) := by
  unfold PySem.stored upsert
  rw [h.any]
  split
  · exact h.put k v t
  · exact h.append k v t
theorem PairsAre.valueAt_none {kvs : List (Str × Value)} {b : List (Str × Int)} (h : PairsAre kvs b) {k : Str} (hk : inBook b k = false) : valueAt kvs k = none := by
  have := h.any k
  rw [hk] at this
  simp only [valueAt, Option.map_eq_none_iff, List.find?_eq_none]
  intro p hp q
  have := List.any_eq_false.mp this p hp
  exact this q
theorem PairsAre.valueAt_some {kvs : List (Str × Value)} {b : List (Str × Int)} (h : PairsAre kvs b) {k : Str} (hk : inBook b k = true) : ∃ n t, valueAt kvs k = some (.int n t) := by
  have := h.any k
  rw [hk] at this
  simp only [valueAt]
  cases e : kvs.find? (fun kv => decide (kv.1 = k)) with
  | none =>
    have e' := List.find?_eq_none.mp e
    obtain ⟨p, hp, hq⟩ := List.any_eq_true.mp this
    exact absurd hq (e' p hp)
  | some p =>
    have hm := List.mem_of_find?_eq_some e
    obtain ⟨i, hi⟩ := List.getElem?_of_mem hm
    obtain ⟨n, t, _, hv⟩ := h.get (k := p.1) (v := p.2) hi
    exact ⟨n, t, by rw [Option.map_some, hv]⟩
theorem without_eraseIdx {kvs : List (Str × Value)} (hn : (kvs.map (·.1)).Nodup) : ∀ {i : Nat} {k : Str} {v : Value}, kvs[i]? = some (k, v) → without kvs k = kvs.eraseIdx i := by
  induction kvs with
  | nil => intro i k v e; cases i <;> cases e
  | cons p r ih =>
    intro i k v e
    rw [List.map_cons, List.nodup_cons] at hn
    cases i with
    | zero =>
      cases e
      have h1 := without_of_not_mem r k hn.1
      show (List.filter _ _) = _
      rw [List.filter_cons_of_neg (by simp)]
      exact h1
    | succ i =>
      have e' : r[i]? = some (k, v) := e
      have hk : ¬ p.1 = k := fun q => hn.1 (List.mem_map.mpr ⟨(k, v), List.mem_of_getElem? e', q.symm⟩)
      show (List.filter _ _) = _
      rw [List.filter_cons_of_pos (by simp [hk]), List.eraseIdx_cons_succ]
      exact congrArg _ (ih hn.2 e')
theorem PairsAre.eraseIdx {kvs : List (Str × Value)} {b : List (Str × Int)} (h : PairsAre kvs b) : ∀ (i : Nat), PairsAre (kvs.eraseIdx i) (b.eraseIdx i) := by
  induction h with
  | nil => intro i; exact .nil
  | cons _ _ _ l ih =>
    intro i
    cases i with
    | zero => exact l
    | succ i => exact .cons _ _ _ (ih i)
/-- the place of the first that is least -/
def leastIdx (vs : List Int) : Nat := vs.idxOf (lmin vs)
theorem leastIdx_eq {vs : List Int} {i : Nat} {n : Int} (e : vs[i]? = some n) (h : ∀ (j : Nat) (m : Int), vs[j]? = some m → n ≤ m ∧ (j < i → n < m)) : i = leastIdx vs := by
  have hm : n ∈ vs := List.mem_of_getElem? e
  have hl : n = lmin vs := lmin_eq hm fun x hx => by
    obtain ⟨j, hj⟩ := List.getElem?_of_mem hx
    exact (h j x hj).1
  unfold leastIdx
  rw [← hl]
  have hlt : vs.idxOf n < vs.length := List.idxOf_lt_length_of_mem hm
  have hg : vs[vs.idxOf n]? = some n := by rw [List.getElem?_eq_getElem hlt]; simp
  have hi : i < vs.length := (List.getElem?_eq_some_iff.mp e).1
  have h1 : ¬ vs.idxOf n < i := fun q => by have := (h _ _ hg).2 q; omega
  have h2 : ¬ i < vs.idxOf n := fun q => by
    have := List.not_of_lt_findIdx (p := (· == n)) (xs := vs) q
    have e2 : vs[i] = n := (List.getElem?_eq_some_iff.mp e).2
    simp [e2] at this
  omega
def dropLeast (b : List (Str × Int)) : List (Str × Int) := b.eraseIdx (leastIdx (b.map (·.2)))
def bookStep (P : Nat) (b : List (Str × Int)) (mk : Int) (k : Str) (v : Int) : List (Str × Int) × Int :=
  if b.length < P then (upsert b k v, mk)
  else if inBook b k = true then (upsert b k v, mk)
  else if mk < v then (dropLeast (b ++ [(k, v)]), lmin ((dropLeast (b ++ [(k, v)])).map (·.2)))
  else (b, mk)
theorem upsert_in {b : List (Str × Int)} {k : Str} {v : Int} (h : inBook b k = true) : (upsert b k v).length = b.length := by simp [upsert, h]
theorem upsert_out {b : List (Str × Int)} {k : Str} {v : Int} (h : inBook b k = false) : upsert b k v = b ++ [(k, v)] := by simp [upsert, h]
theorem leastIdx_lt {vs : List Int} (h : vs ≠ []) : leastIdx vs < vs.length := List.idxOf_lt_length_of_mem (lmin_mem h)
theorem dropLeast_length {b : List (Str × Int)} (h : b ≠ []) : (dropLeast b).length + 1 = b.length := by
  have := leastIdx_lt (vs := b.map (·.2)) (by simpa using h)
  rw [List.length_map] at this
  unfold dropLeast
  rw [List.length_eraseIdx_of_lt this]
  omega
end Mine
end

-- N1
section
open PySem PySem.W PyProof.Rows PySem.Calls PyProof.V
set_option Elab.async false
set_option maxRecDepth 100000
set_option linter.unusedVariables false
namespace Mine
section
variable {w : World} {A : Around} {E : Value → Shared → Prop} {s : Shared} {h₀ : Heap} {L a : Addr} {m : Str → Option Value} {cn : Str} {cs : Scope} {ccd : Value} {cl : List (Str × Addr)} {x : Str} {pos : Pos} {v : Value} {Q : Value → Shared → Prop}
theorem nameG (F : Fr h₀ L s.heap m) (B : Bs w h₀) (e : nsIn (KK w) mainGlobals x = some (some v)) (h : Q v s)
    (hk : cs.kind = .function := by rfl) (hx : (envX cn cs L a ccd cl).kindOf x = some .globalImplicit := by rfl) (hd : (x == ("__debug__" : Str)) = false := by decide) :
    wpAny (model PG w) A (eval (.Name x pos) (envX cn cs L a ccd cl)) Q E s := by
  obtain ⟨X, p, loose, mean, mg, mb, T⟩ := B
  exact nameX_K F X (topRead_of T) e h hk hx hd
theorem nameB (F : Fr h₀ L s.heap m) (B : Bs w h₀) (e : nsIn (KK w) mainGlobals x = some none) (hv : bootBuiltins x = some v) (hn : x ≠ "__name__") (h : Q v s)
    (hk : cs.kind = .function := by rfl) (hx : (envX cn cs L a ccd cl).kindOf x = some .globalImplicit := by rfl) (hd : (x == ("__debug__" : Str)) = false := by decide) :
    wpAny (model PG w) A (eval (.Name x pos) (envX cn cs L a ccd cl)) Q E s := by
  obtain ⟨X, p, loose, mean, mg, mb, T⟩ := B
  exact nameX_B F X (topRead_of T) e hv hn h hk hx hd
theorem b_enumerate (F : Fr h₀ L s.heap m) (B : Bs w h₀) (h : Q (.type "enumerate") s) (hk : cs.kind = .function) (hx : (envX cn cs L a ccd cl).kindOf (Str.ofString "enumerate") = some .globalImplicit) :
    wpAny (model PG w) A (eval (.Name (Str.ofString "enumerate") pos) (envX cn cs L a ccd cl)) Q E s := nameB F B (by kernel_rfl) (by boot_by_name) (by decide) h hk hx (by decide)
theorem b_sorted (F : Fr h₀ L s.heap m) (B : Bs w h₀) (h : Q (.builtin "sorted") s) (hk : cs.kind = .function) (hx : (envX cn cs L a ccd cl).kindOf (Str.ofString "sorted") = some .globalImplicit) :
    wpAny (model PG w) A (eval (.Name (Str.ofString "sorted") pos) (envX cn cs L a ccd cl)) Q E s := nameB F B (by kernel_rfl) (by boot_by_name) (by decide) h hk hx (by decide)
theorem b_range (F : Fr h₀ L s.heap m) (B : Bs w h₀) (h : Q (.type "range") s) (hk : cs.kind = .function) (hx : (envX cn cs L a ccd cl).kindOf (Str.ofString "range") = some .globalImplicit) :
    wpAny (model PG w) A (eval (.Name (Str.ofString "range") pos) (envX cn cs L a ccd cl)) Q E s := nameB F B (by kernel_rfl) (by boot_by_name) (by decide) h hk hx (by decide)
theorem b_min (F : Fr h₀ L s.heap m) (B : Bs w h₀) (h : Q (.builtin "min") s) (hk : cs.kind = .function) (hx : (envX cn cs L a ccd cl).kindOf (Str.ofString "min") = some .globalImplicit) :
    wpAny (model PG w) A (eval (.Name (Str.ofString "min") pos) (envX cn cs L a ccd cl)) Q E s := nameB F B (by kernel_rfl) (by boot_by_name) (by decide) h hk hx (by decide)
theorem b_len (F : Fr h₀ L s.heap m) (B : Bs w h₀) (h : Q (.builtin "len") s) (hk : cs.kind = .function) (hx : (envX cn cs L a ccd cl).kindOf (Str.ofString "len") = some .globalImplicit) :
    wpAny (model PG w) A (eval (.Name (Str.ofString "len") pos) (envX cn cs L a ccd cl)) Q E s := nameB F B (by kernel_rfl) (by boot_by_name) (by decide) h hk hx (by decide)
theorem b_list (F : Fr h₀ L s.heap m) (B : Bs w h₀) (h : Q (.type "list") s) (hk : cs.kind = .function) (hx : (envX cn cs L a ccd cl).kindOf (Str.ofString "list") = some .globalImplicit) :
    wpAny (model PG w) A (eval (.Name (Str.ofString "list") pos) (envX cn cs L a ccd cl)) Q E s := nameB F B (by kernel_rfl) (by boot_by_name) (by decide) h hk hx (by decide)
theorem b_int (F : Fr h₀ L s.heap m) (B : Bs w h₀) (h : Q (.type "int") s) (hk : cs.kind = .function) (hx : (envX cn cs L a ccd cl).kindOf (Str.ofString "int") = some .globalImplicit) :
    wpAny (model PG w) A (eval (.Name (Str.ofString "int") pos) (envX cn cs L a ccd cl)) Q E s := nameB F B (by kernel_rfl) (by boot_by_name) (by decide) h hk hx (by decide)
theorem b_float (F : Fr h₀ L s.heap m) (B : Bs w h₀) (h : Q (.type "float") s) (hk : cs.kind = .function) (hx : (envX cn cs L a ccd cl).kindOf (Str.ofString "float") = some .globalImplicit) :
    wpAny (model PG w) A (eval (.Name (Str.ofString "float") pos) (envX cn cs L a ccd cl)) Q E s := nameB F B (by kernel_rfl) (by boot_by_name) (by decide) h hk hx (by decide)
theorem b_complex (F : Fr h₀ L s.heap m) (B : Bs w h₀) (h : Q (.type "complex") s) (hk : cs.kind = .function) (hx : (envX cn cs L a ccd cl).kindOf (Str.ofString "complex") = some .globalImplicit) :
    wpAny (model PG w) A (eval (.Name (Str.ofString "complex") pos) (envX cn cs L a ccd cl)) Q E s := nameB F B (by kernel_rfl) (by boot_by_name) (by decide) h hk hx (by decide)
theorem b_isinstance (F : Fr h₀ L s.heap m) (B : Bs w h₀) (h : Q (.builtin "isinstance") s) (hk : cs.kind = .function) (hx : (envX cn cs L a ccd cl).kindOf (Str.ofString "isinstance") = some .globalImplicit) :
    wpAny (model PG w) A (eval (.Name (Str.ofString "isinstance") pos) (envX cn cs L a ccd cl)) Q E s := nameB F B (by kernel_rfl) (by boot_by_name) (by decide) h hk hx (by decide)
theorem t_INT32_T_MAX (F : Fr h₀ L s.heap m) (B : Bs w h₀) (h : Q (.int 2147483647 197) s) (hk : cs.kind = .function) (hx : (envX cn cs L a ccd cl).kindOf (Str.ofString "INT32_T_MAX") = some .globalImplicit) :
    wpAny (model PG w) A (eval (.Name (Str.ofString "INT32_T_MAX") pos) (envX cn cs L a ccd cl)) Q E s := nameG F B (by kernel_rfl) h hk hx (by decide)
theorem t_INT32_T_MIN (F : Fr h₀ L s.heap m) (B : Bs w h₀) (h : Q (.int (-2147483648) 195) s) (hk : cs.kind = .function) (hx : (envX cn cs L a ccd cl).kindOf (Str.ofString "INT32_T_MIN") = some .globalImplicit) :
    wpAny (model PG w) A (eval (.Name (Str.ofString "INT32_T_MIN") pos) (envX cn cs L a ccd cl)) Q E s := nameG F B (by kernel_rfl) h hk hx (by decide)
theorem t_INT64_T_MAX (F : Fr h₀ L s.heap m) (B : Bs w h₀) (h : Q (.int 9223372036854775807 199) s) (hk : cs.kind = .function) (hx : (envX cn cs L a ccd cl).kindOf (Str.ofString "INT64_T_MAX") = some .globalImplicit) :
    wpAny (model PG w) A (eval (.Name (Str.ofString "INT64_T_MAX") pos) (envX cn cs L a ccd cl)) Q E s := nameG F B (by kernel_rfl) h hk hx (by decide)
theorem t__law_number (F : Fr h₀ L s.heap m) (B : Bs w h₀) (h : Q (.ref 338) s) (hk : cs.kind = .function) (hx : (envX cn cs L a ccd cl).kindOf (Str.ofString "_law_number") = some .globalImplicit) :
    wpAny (model PG w) A (eval (.Name (Str.ofString "_law_number") pos) (envX cn cs L a ccd cl)) Q E s := nameG F B (by kernel_rfl) h hk hx (by decide)
theorem t__law_shapes (F : Fr h₀ L s.heap m) (B : Bs w h₀) (h : Q (.ref 330) s) (hk : cs.kind = .function) (hx : (envX cn cs L a ccd cl).kindOf (Str.ofString "_law_shapes") = some .globalImplicit) :
    wpAny (model PG w) A (eval (.Name (Str.ofString "_law_shapes") pos) (envX cn cs L a ccd cl)) Q E s := nameG F B (by kernel_rfl) h hk hx (by decide)
theorem t__law_amounts (F : Fr h₀ L s.heap m) (B : Bs w h₀) (h : Q (.ref 331) s) (hk : cs.kind = .function) (hx : (envX cn cs L a ccd cl).kindOf (Str.ofString "_law_amounts") = some .globalImplicit) :
    wpAny (model PG w) A (eval (.Name (Str.ofString "_law_amounts") pos) (envX cn cs L a ccd cl)) Q E s := nameG F B (by kernel_rfl) h hk hx (by decide)
theorem t_HeavyHitters (F : Fr h₀ L s.heap m) (B : Bs w h₀) (h : Q (.ref 321) s) (hk : cs.kind = .function) (hx : (envX cn cs L a ccd cl).kindOf (Str.ofString "HeavyHitters") = some .globalImplicit) :
    wpAny (model PG w) A (eval (.Name (Str.ofString "HeavyHitters") pos) (envX cn cs L a ccd cl)) Q E s := nameG F B (by kernel_rfl) h hk hx (by decide)
end
section
variable {w : World} {M : Model} {A : Around} {E : Value → Shared → Prop} {s : Shared} {scope : Scope} {cl : List (Str × Addr)} {C c : Addr} {env : Env} {x : Str} {pos : Pos} {v : Value} {Q : Value → Shared → Prop}
theorem cN_C (hc : cl.lookup x = some c) (hv : s.heap.IsCell c (some v)) (h : Q v s) (hk : (compEnvC scope cl C env).scope.kind = .function) (hx : (compEnvC scope cl C env).kindOf x = some .cell) (hb : (x == ("__debug__" : Str)) = false) :
    wpAny M A (eval (.Name x pos) (compEnvC scope cl C env)) Q E s := wpAny_Name (wpAny_loadName_cell hk hx hc hv h) hb
theorem cN_L {m : Str → Option Value} (hn : s.heap.Ns C m) (hv : m x = some v) (h : Q v s) (hk : (compEnvC scope cl C env).scope.kind = .function) (hx : (compEnvC scope cl C env).kindOf x = some .local) (hb : (x == ("__debug__" : Str)) = false) :
    wpAny M A (eval (.Name x pos) (compEnvC scope cl C env)) Q E s := ldVarK hn hv h hk hx hb
theorem sub_list {value slice : Expr} {l : Addr} {vs : List Value} {k : Int} {u : Tok} (hl : s.heap.IsList l vs.toArray) (h0 : 0 ≤ k) (hhi : k < 2 ^ 63) (hx : vs[k.toNat]? = some v) (h : Q v s)
    (hs : subscripted slice false (.ref l) (.int k u) = operate [.ref l, .int k u] (getItem (.ref l) (.int k u))) : wpAny (model PG w) A (subscriptTail value slice (.ref l) (.int k u)) Q E s :=
  tail_any hl.typeIs slot_list_getitem.lookup (wpAny_getItem_list hl h0 hhi (by simpa using hx) h) hs
theorem lst_list {h : Heap} {D : Addr} {ys : List Value} (e : h.get? D = some (LCg.lst ys)) : h.IsList D ys.toArray := ⟨_, e, rfl, _, rfl⟩
theorem isList_keeps {h h' : Heap} {l : Addr} {vs : Array Value} (x : h.IsList l vs) (k : ∀ b o, h.get? b = some o → h'.get? b = some o) : h'.IsList l vs := let ⟨o, e, r⟩ := x; ⟨o, k _ _ e, r⟩
end
end Mine
end

-- G4
section
open PySem PySem.W PyProof.Rows PySem.Calls PyProof.V PyProof.Rows.LCg
set_option Elab.async false
set_option maxRecDepth 100000
set_option linter.unusedVariables false
namespace Mine
section
variable {prog : Program} {w : World} {A : Around} {E : Value → Shared → Prop} {s : Shared} {env : Env} {g : Heap} {body : List Stmt} {Q : Flow → Shared → Prop}
def ListObj (o : Obj) (vs : List Value) : Prop := o.cls = .type "list" ∧ ∃ k, o.data = .seq vs.toArray k
theorem listObj_at {h : Heap} {l : Addr} {o : Obj} {vs : List Value} (e : h.get? l = some o) (x : ListObj o vs) : h.IsList l vs.toArray := ⟨o, e, x.1, x.2⟩
theorem enum_mut_loop {R : Result → Shared → Prop} {e it l : Addr} {n : Nat} {ol : Obj} {vs : List Value} {old : Value} {xa xb : Str} {pa pb tp : Pos} {kk : Nat} {m : Str → Option Value} {news : List (Addr × Obj)}
    (hh : A.handled = none) (hei : e ≠ it) (hle : l ≠ e) (hli : l ≠ it) (hLe : env.locals ≠ e) (hLi : env.locals ≠ it) (ge : g.get? e = none) (gi : g.get? it = none) (hnw : ∀ p ∈ news, p.1 ≠ e ∧ p.1 ≠ it)
    (F : Fr g env.locals s.heap m) (N : News g env.locals s.heap ((l, ol) :: news)) (hol : ListObj ol vs) (hvs : vs.length = n) (he : IsEnum s.heap e it 0 old) (hit : s.heap.IsListIter it l 0)
    (hxa : env.kindOf xa = some .local) (hxb : env.kindOf xb = some .local) (hp : (env.scope.kind == .class || (env.scope.kind == .module && env.locals != env.globals)) = false)
    (J : Nat → (Str → Option Value) → List Value → Prop) (h0 : J 0 m vs)
    (turn : ∀ (i : Nat) v t m₁ (vs₁ : List Value) ol₁ h tk oe oi, vs₁[i]? = some v → vs₁.length = n → J i m₁ vs₁ → ListObj ol₁ vs₁ → Fr g env.locals h (fun z => if z = xb then some v else if z = xa then some (.int (i : Int) t) else m₁ z) → News g env.locals h ((e, oe) :: (it, oi) :: (l, ol₁) :: news) →
      wpAny (model prog w) A (execs body env) (fun f s' => f = .next ∧ ∃ h' tk' m' vs' ol', s' = { s with heap := h', toks := tk' } ∧ Fr g env.locals h' m' ∧ News g env.locals h' ((e, oe) :: (it, oi) :: (l, ol') :: news) ∧ ListObj ol' vs' ∧ vs'.length = n ∧ J (i + 1) m' vs') (fun _ _ => False) { s with heap := h, toks := tk })
    (hR : ∀ h tk m₁ vs₁ ol₁, Fr g env.locals h m₁ → News g env.locals h ((l, ol₁) :: news) → ListObj ol₁ vs₁ → vs₁.length = n → J n m₁ vs₁ → R (.ok .next) { s with heap := h, toks := tk }) :
    codeAny (model prog w) A (.forLoop (.Tuple [.Name xa pa, .Name xb pb] kk tp) (.ref e) body [] env) R s := by
  have gL : g.get? env.locals = none := Heap.get?_none_of_le F.above
  have nle : ∀ p ∈ news, p.1 ≠ env.locals := fun p hp => (N p (.tail _ hp)).2.1
  have keepF : ∀ {h h' : Heap} {m₁ : Str → Option Value}, Fr g env.locals h m₁ → (∀ b o, b ≠ e → b ≠ it → h.get? b = some o → h'.get? b = some o) → Fr g env.locals h' m₁ := fun F' k =>
    ⟨F'.ns.at' fun o q => k _ o hLe hLi q, fun b o q => k b o (fun z => by rw [z, ge] at q; cases q) (fun z => by rw [z, gi] at q; cases q) (F'.keep b o q), F'.above⟩
  have keepN : ∀ {h h' : Heap} {o : Obj}, News g env.locals h ((l, o) :: news) → (∀ b o, b ≠ e → b ≠ it → h.get? b = some o → h'.get? b = some o) → News g env.locals h' ((l, o) :: news) := fun {h h' o} N' k p hp => by
    rcases List.mem_cons.mp hp with rfl | hp
    · exact ⟨k _ _ hle hli (N' _ (.head _)).1, (N' _ (.head _)).2⟩
    · exact ⟨k _ _ (hnw p hp).1 (hnw p hp).2 (N' p (.tail _ hp)).1, (N' p (.tail _ hp)).2⟩
  refine codeAny_forLoop_any
    (fun k s' => ∃ (h' : Heap) (tk : Nat) (m' : Str → Option Value) (vs' : List Value) (ol' : Obj) (i : Nat), s' = { s with heap := h', toks := tk } ∧ (∃ old, IsEnum h' e it (i : Int) old) ∧ h'.IsListIter it l i ∧ Fr g env.locals h' m' ∧ News g env.locals h' ((l, ol') :: news) ∧ ListObj ol' vs' ∧ vs'.length = n ∧ J i m' vs' ∧ i ≤ n ∧ k = n + 1 - i) ?_ (n + 1)
    ⟨s.heap, s.toks, m, vs, ol, 0, rfl, ⟨old, he⟩, hit, F, N, hol, hvs, h0, Nat.zero_le _, rfl⟩
  rintro k s' ⟨h', tk, m', vs', ol', i, rfl, ⟨old', he'⟩, hit', F', N', hol', hvl, hJ, hi, rfl⟩
  have hL' := listObj_at (N' _ (.head _)).1 hol'
  by_cases hlt : i < n
  · have hx : vs'.toArray[i]? = some vs'[i] := by simp [hvl, hlt]
    refine wpAny_pyNext_enum_item he' hit' hL' hx hei fun h₁ ho₁ hit₁ hT₁ hsz₁ hk₁ => ?_
    refine wpAny_letOwnedTupleGo_enum ho₁ fun h₂ he₂ hs₂ => ?_
    have hk₂ : ∀ b o, b ≠ e → b ≠ it → h'.get? b = some o → h₂.get? b = some o := fun b o q1 q2 q => (hs₂.2 b q1).trans (hk₁ b o q1 q2 q)
    have F₂ := keepF F' hk₂
    have N₂ := keepN N' hk₂
    have hTe : h'.objs.size ≠ e := Nat.ne_of_gt (Heap.lt_size he')
    have hT₂ : h₂.IsTuple h'.objs.size #[.int i tk, vs'[i]] := ⟨_, (hs₂.2 _ hTe).trans hT₁, rfl, _, rfl⟩
    have hit₂ : h₂.IsListIter it l (i + 1) := hit₁.at fun o q => (hs₂.2 it hei.symm).trans q
    refine wpAny_mono (kcp_assign (E := fun _ _ => False) hh hT₂ hxa hxb hp F₂.ns fun h₃ tk₃ hn₃ hk₃ => ?_) (fun _ _ q => q) fun _ _ q => q.elim
    have F₃ : Fr g env.locals h₃ _ := ⟨hn₃, fun b o q => hk₃ b o (fun z => by rw [z, gL] at q; cases q) (F₂.keep b o q), F₂.above⟩
    have N₃ : News g env.locals h₃ ((l, ol') :: news) := fun p hp => ⟨hk₃ _ _ (N₂ p hp).2.1 (N₂ p hp).1, (N₂ p hp).2⟩
    obtain ⟨oe, hoe, hoeq⟩ : ∃ oe, h₂.get? e = some oe ∧ ∀ h'' : Heap, h''.get? e = some oe → IsEnum h'' e it ((i + 1 : Nat) : Int) vs'[i] := ⟨_, he₂, fun _ q => by rw [show ((i + 1 : Nat) : Int) = (i : Int) + 1 from Int.natCast_succ i]; exact q⟩
    have e3 := hk₃ _ _ hLe.symm hoe
    obtain ⟨oi, hoi, hoi2⟩ := id hit₂
    have i3 := hk₃ _ _ hLi.symm hoi
    have N₄ : News g env.locals h₃ ((e, oe) :: (it, oi) :: (l, ol') :: news) := fun p hp => by
      rcases List.mem_cons.mp hp with rfl | hp
      · exact ⟨e3, hLe.symm, ge⟩
      · rcases List.mem_cons.mp hp with rfl | hp
        · exact ⟨i3, hLi.symm, gi⟩
        · exact N₃ _ hp
    have tn := turn i vs'[i] tk m' vs' ol' h₃ tk₃ oe oi (by simp [hvl, hlt]) hvl hJ hol' F₃ N₄
    refine wpAny_mono tn (fun f s₄ h₄ => ?_) fun _ _ q => q.elim
    · obtain ⟨rfl, h'', tk'', m'', vs'', ol'', rfl, F'', N'', hol'', hvl'', hJ''⟩ := h₄
      exact ⟨n + 1 - (i + 1), by omega, h'', tk'', m'', vs'', ol'', i + 1, rfl, ⟨_, hoeq _ (N'' _ (.head _)).1⟩, ⟨oi, (N'' _ (.tail _ (.head _))).1, hoi2⟩, F'', fun p hp => N'' p (.tail _ (.tail _ hp)), hol'', hvl'', hJ'', hlt, rfl⟩
  · have hin : i = n := by omega
    subst hin
    refine wpAny_pyNext_enum_end hh he' hit' hL' (by simp [hvl]) fun h₁ hx => wpAny_execs_nil ?_
    have hk₁ : ∀ b o, b ≠ e → b ≠ it → h'.get? b = some o → h₁.get? b = some o := fun b o _ q2 q => hx b o q2 q
    exact hR h₁ tk m' vs' ol' (keepF F' hk₁) (keepN N' hk₁) hol' hvl hJ
/-- a for over the places of a list that the body writes -/
theorem For_mut {iter : Expr} {pos : Pos} {n : Nat} {l : Addr} {ol : Obj} {vs : List Value} {xa xb : Str} {pa pb tp : Pos} {kk : Nat} {m : Str → Option Value} {news : List (Addr × Obj)}
    (h : wpAny (model prog w) A (eval iter env) (fun xv s₁ => ∃ h₁ tk₁, s₁ = { s with heap := h₁, toks := tk₁ } ∧ Fr g env.locals h₁ m ∧ News g env.locals h₁ ((l, ol) :: news) ∧ ∃ e it, xv = .ref e ∧ IsEnum h₁ e it 0 .none ∧ h₁.IsListIter it l 0 ∧ e ≠ it ∧ l ≠ e ∧ l ≠ it ∧ env.locals ≠ e ∧ env.locals ≠ it ∧ g.get? e = none ∧ g.get? it = none ∧ ∀ p ∈ news, p.1 ≠ e ∧ p.1 ≠ it) E s)
    (hh : A.handled = none) (hol : ListObj ol vs) (hvs : vs.length = n)
    (hxa : env.kindOf xa = some .local) (hxb : env.kindOf xb = some .local) (hp : (env.scope.kind == .class || (env.scope.kind == .module && env.locals != env.globals)) = false)
    (J : Nat → (Str → Option Value) → List Value → Prop) (h0 : J 0 m vs)
    (turn : ∀ e it (i : Nat) v t m₁ (vs₁ : List Value) ol₁ h tk oe oi, l ≠ e → l ≠ it → vs₁[i]? = some v → vs₁.length = n → J i m₁ vs₁ → ListObj ol₁ vs₁ → Fr g env.locals h (fun z => if z = xb then some v else if z = xa then some (.int (i : Int) t) else m₁ z) → News g env.locals h ((e, oe) :: (it, oi) :: (l, ol₁) :: news) →
      wpAny (model prog w) A (execs body env) (fun f s' => f = .next ∧ ∃ h' tk' m' vs' ol', s' = { s with heap := h', toks := tk' } ∧ Fr g env.locals h' m' ∧ News g env.locals h' ((e, oe) :: (it, oi) :: (l, ol') :: news) ∧ ListObj ol' vs' ∧ vs'.length = n ∧ J (i + 1) m' vs') (fun _ _ => False) { s with heap := h, toks := tk })
    (hR : ∀ h tk m₁ vs₁ ol₁, Fr g env.locals h m₁ → News g env.locals h ((l, ol₁) :: news) → ListObj ol₁ vs₁ → vs₁.length = n → J n m₁ vs₁ → Q .next { s with heap := h, toks := tk })
    (hs : ∀ x, foldedSetIterable iter env x = pure x := by intro _; rfl) :
    wpAny (model prog w) A (exec (.For (.Tuple [.Name xa pa, .Name xb pb] kk tp) iter body [] pos) env) Q E s := by
  refine wpAny_For (wpAny_mono h (fun xv s₁ h₁ => ?_) fun _ _ e => e) hs
  obtain ⟨h₁, tk₁, rfl, F, N, e, it, rfl, he, hit, hei, hle, hli, hLe, hLi, ge, gi, hnw⟩ := h₁
  refine wpAny_pyIter_enum he ?_
  exact enum_mut_loop (R := fun r s' => match r with | .ok f => Q f s' | .error e => cameBackBy (model prog w) A env E e s') hh hei hle hli hLe hLi ge gi hnw F N hol hvs he hit hxa hxb hp J h0 (fun i v t m₁ vs₁ ol₁ h tk oe oi a b c d F N => turn e it i v t m₁ vs₁ ol₁ h tk oe oi hle hli a b c d F N) (fun h tk m₁ vs₁ ol₁ a b c d e => hR h tk m₁ vs₁ ol₁ a b c d e)
end
end Mine
end

-- G5
section
open PySem PySem.W PyProof.Rows PySem.Calls PyProof.V PyProof.Rows.LCg
set_option Elab.async false
set_option maxRecDepth 100000
set_option linter.unusedVariables false
namespace Mine
theorem cell_at {h h' : Heap} {c : Addr} {v : Option Value} (x : h.IsCell c v) (e : ∀ o, h.get? c = some o → h'.get? c = some o) : h'.IsCell c v := let ⟨o, ho, r⟩ := x; ⟨o, e _ ho, r⟩
/-- as EltEnd, where the block has one cell of its own -/
def EltEndC (val : Nat → Value → List (Addr × Obj) → Prop) (i : Nat) (C : Addr) (s₃ : Shared) (y : Value) (s₅ : Shared) : Prop :=
  ∃ (h' : Heap) (tk' : Nat) (m' : Str → Option Value) (own : List (Addr × Obj)), s₅ = { s₃ with heap := h', toks := tk' } ∧ h'.Ns C m' ∧ (∃ cv, h'.IsCell (C + 1) cv) ∧ (∀ b o, b ≠ C → b ≠ C + 1 → s₃.heap.get? b = some o → h'.get? b = some o) ∧ val i y own ∧
    (∀ p ∈ own, s₃.heap.get? p.1 = none ∧ h'.get? p.1 = some p.2) ∧ (own.map (·.1)).Nodup
def CEltC (prog : Program) (w : World) (A : Around) (target elt : Expr) (scope : Scope) (cl : List (Str × Addr)) (cx : Str) (env : Env) (n : Nat) (val : Nat → Value → List (Addr × Obj) → Prop) (s₂ : Shared) (wr : List Addr) (P : Nat → Value → Heap → Prop) : Prop :=
  ∀ i v C m₃ h tk (E' : Value → Shared → Prop), i < n → P i v h → h.Ns C m₃ → (∃ cv, h.IsCell (C + 1) cv) → s₂.heap.get? C = none → s₂.heap.get? (C + 1) = none → (∀ b o, s₂.heap.get? b = some o → b ∉ wr → h.get? b = some o) →
    wpAny (model prog w) A (assign target (compEnvC scope ((cx, C + 1) :: cl) C env) v) (fun _ s₄ => wpAny (model prog w) A (eval elt (compEnvC scope ((cx, C + 1) :: cl) C env)) (EltEndC val i C { s₂ with heap := h, toks := tk }) E' s₄) E' { s₂ with heap := h, toks := tk }
def CSrcC (prog : Program) (w : World) (A : Around) (target elt : Expr) (scope : Scope) (cl : List (Str × Addr)) (cx : Str) (env : Env) (Fin : Shared → List Addr → Nat → (Nat → Value → List (Addr × Obj) → Prop) → Prop) (it : Value) (s₂ : Shared) : Prop :=
  ∃ (I : Addr) (fp wr : List Addr) (n : Nat) (P Md : Nat → Value → Heap → Prop) (St : Nat → Heap → Prop) (val : Nat → Value → List (Addr × Obj) → Prop), it = .ref I ∧ KTurns prog w A target I fp wr n P Md St ∧
    (∀ (s : Shared) (Q : Value → Shared → Prop) (E : Value → Shared → Prop), St 0 s.heap → Q (.ref I) s → wpAny (model prog w) A (pyIter (.ref I)) Q E s) ∧ (∀ i h, St i h → ∀ b ∈ fp, ∃ o, h.get? b = some o) ∧ n ≤ sizeLine ∧ St 0 s₂.heap ∧ (∀ b ∈ fp, b < s₂.heap.objs.size) ∧
    CEltC prog w A target elt scope cl cx env n val s₂ wr P ∧ Fin s₂ wr n val
theorem newFE_cell {M : Model} {A : Around} {E : Value → Shared → Prop} {s : Shared} {scope : Scope} {globals : Addr} {cl : List (Str × Addr)} {cx qual : Str} {func : Option Addr} {code : Value} {outer : Env} {builtins : Addr} {Q : Env → Shared → Prop}
    (hpush : ∀ h, pushCells h scope.names = h.push { cls := .type "cell", data := .cell none }) (hcf : ∀ n, cellsFrom n scope.names cl = (cx, n) :: cl)
    (hQ : ∀ h', h'.Ns s.heap.objs.size (fun _ => none) → h'.IsCell (s.heap.objs.size + 1) none → (∀ b o, s.heap.get? b = some o → h'.get? b = some o) →
      Q { scope, locals := s.heap.objs.size, globals, cells := (cx, s.heap.objs.size + 1) :: cl, qual, func, code := outer.code, frame := outer.frame, builtins := outer.builtins } { s with heap := h' }) :
    wpAny M A (newFunctionEnv scope globals cl [] qual func code (some outer) builtins) Q E s := by
  simp only [newFunctionEnv, Option.isSome_some, if_true]
  refine wpAny_bind (wpAny_alloc ?_)
  refine wpAny_bind (wpAny_layCells _ (fun name kind cells => by cases hkc : kind == NameKind.cell <;> simp [hkc]) _ _ _ _ ?_)
  rw [hcf, hpush]
  rw [List.forIn_nil]
  refine wpAny_bind (wpAny_pure (wpAny_pure ?_))
  have hz : (s.heap.push { cls := .type "dict", data := .dict #[] }).objs.size = s.heap.objs.size + 1 := Heap.size_push ..
  show Q _ _
  rw [show ({ s with heap := s.heap.push { cls := .type "dict", data := .dict #[] } } : Shared).heap.objs.size = s.heap.objs.size + 1 from hz]
  refine hQ _ ?_ ?_ fun b o e => Heap.get?_push_of_some _ (Heap.get?_push_of_some _ e)
  · exact (Heap.Ns.new s.heap (.type "dict")).keeps fun b o e => Heap.get?_push_of_some _ e
  · exact ⟨_, hz ▸ Heap.get?_push_size _ rfl, rfl⟩
section
variable {prog : Program} {w : World} {A : Around} {E : Value → Shared → Prop} {env : Env} {target elt iter : Expr} {scope : Scope} {cl : List (Str × Addr)} {cx : Str} {pos : Pos} {s₂ : Shared} {I : Addr} {fp wr : List Addr} {n : Nat} {P Md : Nat → Value → Heap → Prop} {St : Nat → Heap → Prop}
  {val : Nat → Value → List (Addr × Obj) → Prop} {RR : Value → Addr → Result → Shared → Prop}
theorem my_block_c (W : KTurns prog w A target I fp wr n P Md St) (self : ∀ (s : Shared) (Q : Value → Shared → Prop) (E : Value → Shared → Prop), St 0 s.heap → Q (.ref I) s → wpAny (model prog w) A (pyIter (.ref I)) Q E s)
    (hlive : ∀ i h, St i h → ∀ b ∈ fp, ∃ o, h.get? b = some o)
    (hsz : n ≤ sizeLine) (hpush : ∀ h, pushCells h scope.names = h.push { cls := .type "cell", data := .cell none }) (hcf : ∀ n, cellsFrom n scope.names cl = (cx, n) :: cl) (hkind : scope.kind = .function) (hst : St 0 s₂.heap) (hfp : ∀ b ∈ fp, b < s₂.heap.objs.size)
    (T : CEltC prog w A target elt scope cl cx env n val s₂ wr P)
    (hRR : ∀ D C h tk, C ≠ D → s₂.heap.get? C = none → s₂.heap.get? D = none → BlockFin n val s₂ wr D C h → RR (.ref D) C (.ok .next) { s₂ with heap := h, toks := tk }) :
    wpAny (model prog w) A (newList []) (fun acc s₃ => wpAny (model prog w) A (newFunctionEnv scope env.globals cl [] env.qual none .none (some env)) (fun cenv s₄ =>
      codeAny (model prog w) A (.compStart (.ListComp elt [⟨target, iter, [], 0⟩] scope pos) 0 (.ref I) acc { cenv with scope := relabel scope env }) (RR acc cenv.locals) s₄) E s₃) E s₂ := by
  refine wpAny_newObj_type (newFE_cell hpush hcf (fun h₁ hns₁ hcl₁ hsb₁ => ?_))
  dsimp only at hns₁ hcl₁ hsb₁ ⊢
  generalize hH2 : s₂.heap.push { cls := .type "list", dict := none, data := .seq ([] : List Value).toArray } = H2 at hns₁ hcl₁ hsb₁ ⊢
  have hC : H2.objs.size = s₂.heap.objs.size + 1 := by rw [← hH2, Heap.size_push]
  generalize hCq : H2.objs.size = C at hns₁ hcl₁ hsb₁ hC ⊢
  generalize hDq : s₂.heap.objs.size = D at hC ⊢
  have hDC : D ≠ C := by omega
  have below : ∀ b, b < D → b ≠ C ∧ b ≠ D ∧ b ≠ C + 1 := fun b hb => ⟨by omega, by omega, by omega⟩
  have hDC1 : D ≠ C + 1 := by omega
  have hCC1 : C ≠ C + 1 := by omega
  have hfp' : ∀ b ∈ fp, @LT.lt Nat _ b D := fun b hb => hDq ▸ hfp b hb
  have hDf : D ∉ fp := fun hm => Nat.lt_irrefl _ (hfp' _ hm)
  have hCf : C ∉ fp := fun hm => by have := hfp' _ hm; rw [hC] at this; exact Nat.lt_irrefl _ (Nat.lt_of_succ_lt this)
  have hC1f : C + 1 ∉ fp := fun hm => by have := hfp' _ hm; rw [hC] at this; exact Nat.lt_irrefl _ (Nat.lt_of_succ_lt (Nat.lt_of_succ_lt this))
  have hCw : C ∉ wr := fun h => hCf (W.sub _ h)
  have hC1w : C + 1 ∉ wr := fun h => hC1f (W.sub _ h)
  have hDw : D ∉ wr := fun h => hDf (W.sub _ h)
  have old : ∀ b o, s₂.heap.get? b = some o → h₁.get? b = some o := fun b o e => hsb₁ b o (hH2 ▸ Heap.get?_push_of_some _ e)
  have hacc : h₁.get? D = some (lst []) := hsb₁ _ _ (hH2 ▸ hDq ▸ Heap.get?_push_size _ rfl)
  have hst₁ : St 0 h₁ := W.frame _ _ _ hst fun b _ o e => old b o e
  have fresh : ∀ a, D ≤ a → s₂.heap.get? a = none := fun a ha => by
    cases e : s₂.heap.get? a with
    | none => rfl
    | some o' => exact absurd (Heap.lt_size e) (Nat.not_lt.mpr (hDq ▸ ha))
  have loop : ∀ s₃ : Shared, s₃ = { s₂ with heap := h₁, toks := s₂.toks } →
      codeAny (model prog w) A (.compLoop (.ListComp elt [⟨target, iter, [], 0⟩] scope pos) 0 (.ref I) (.ref D) (compEnvC scope ((cx, C + 1) :: cl) C env)) (RR (.ref D) C) s₃ := by
    rintro s₃ rfl
    refine kcp_loop
      (fun k s' => ∃ (h' : Heap) (tk : Nat) (i : Nat) (ys : List Value) (owns : List (List (Addr × Obj))) (m' : Str → Option Value), s' = { s₂ with heap := h', toks := tk } ∧ i ≤ n ∧ k = n + 1 - i ∧ ys.length = i ∧ owns.length = i ∧ St i h' ∧ h'.Ns C m' ∧ (∃ cv, h'.IsCell (C + 1) cv) ∧ h'.get? D = some (lst ys) ∧
        (∀ j y own, ys[j]? = some y → owns[j]? = some own → val j y own) ∧ (∀ p ∈ owns.flatten, s₂.heap.get? p.1 = none ∧ h'.get? p.1 = some p.2 ∧ p.1 ≠ D ∧ p.1 ≠ C ∧ p.1 ≠ C + 1 ∧ p.1 ∉ fp) ∧ (owns.flatten.map (·.1)).Nodup ∧
        (∀ b o, s₂.heap.get? b = some o → b ∉ wr → h'.get? b = some o)) ?_ (n + 1)
      ⟨h₁, _, 0, [], [], _, rfl, Nat.zero_le _, rfl, rfl, rfl, hst₁, hns₁, ⟨_, hcl₁⟩, hacc, by simp, by simp, by simp, fun b o e _ => old b o e⟩
    rintro k s' ⟨h', tk, i, ys, owns, m', rfl, hi, rfl, hyl, hol, hst', hn', ⟨cv', hc'⟩, hD', hv, hown, hnd, hk'⟩
    by_cases hlt : i < n
    · refine W.item i _ _ _ hlt hst' fun v h₂ tk₂ hMd hk₂ => ?_
      refine W.go i v _ _ _ hMd fun h₃ hP hst₃ hk₃ => ?_
      have up : ∀ b o, b ∉ wr → h'.get? b = some o → h₃.get? b = some o := fun b o hb e => hk₃ b o hb (hk₂ b o hb e)
      refine wpAny_mono (T i v C m' h₃ tk₂ _ hlt hP (hn'.at' fun o e => up _ o hCw e) ⟨cv', cell_at hc' fun o e => up _ o hC1w e⟩ (fresh C (by rw [hC]; exact Nat.le_succ _)) (fresh (C + 1) (by rw [hC]; exact Nat.le_succ_of_le (Nat.le_succ _))) fun b o e hb => up b o hb (hk' b o e hb)) (fun _ s₄ h₄ => wpAny_mono h₄ (fun y s₅ h₅ => ?_) fun _ _ e => e) fun _ _ e => e
      obtain ⟨h₅, tk₅, m₅, own, rfl, hn₅, ⟨cv₅, hc₅⟩, hk₅, hval, ho₅, hnd₅⟩ := h₅
      have up5 : ∀ b o, b ≠ C → b ≠ C + 1 → b ∉ wr → h'.get? b = some o → h₅.get? b = some o := fun b o hb hb1 hw e => hk₅ b o hb hb1 (up b o hw e)
      have zD := up5 D _ hDC hDC1 hDw hD'
      have hst₅ : St (i + 1) h₅ := W.frame _ _ _ hst₃ fun b hb o e => hk₅ b o (fun q => hCf (q ▸ hb)) (fun q => hC1f (q ▸ hb)) e
      have zD3 := up D _ hDw hD'
      have zC3 : ∃ o, h₃.get? C = some o := let ⟨o, _, _, e, _⟩ := hn'; ⟨o, up C o hCw e⟩
      have newC : ∀ p ∈ own, p.1 ≠ C := fun p hp q => by obtain ⟨o, e⟩ := zC3; have := (ho₅ p hp).1; rw [q] at this; rw [this] at e; cases e
      have zC13 : ∃ o, h₃.get? (C + 1) = some o := let ⟨o, e, _⟩ := hc'; ⟨o, up (C + 1) o hC1w e⟩
      have newC1 : ∀ p ∈ own, p.1 ≠ C + 1 := fun p hp q => by obtain ⟨o, e⟩ := zC13; have := (ho₅ p hp).1; rw [q] at this; rw [this] at e; cases e
      have newF : ∀ p ∈ own, p.1 ∉ fp := fun p hp q => by
        obtain ⟨o, e⟩ := hlive _ _ hst₃ _ q
        have b1' : h₃.get? p.1 = none := (ho₅ p hp).1
        rw [b1'] at e; cases e
      have newD : ∀ p ∈ own, p.1 ≠ D := fun p hp q => by have := (ho₅ p hp).1; rw [q, zD3] at this; cases this
      refine append_at (hsz := by show ys.toArray.size ≤ sizeLine; rw [List.size_toArray, hyl]; exact Nat.le_trans hi hsz) zD fun h₆ hs₆ hD₆ => ?_
      have hs₆' : Heap.SameBut D h₅ h₆ := hs₆
      refine ⟨n + 1 - (i + 1), by omega, h₆, tk₅, i + 1, ys ++ [y], owns ++ [own], m₅, rfl, hlt, rfl, by simp [hyl], by simp [hol], W.frame _ _ _ hst₅ fun b hb o e => hs₆'.extBut b o (fun q => hDf (q ▸ hb)) e, hn₅.sameBut hs₆' (Ne.symm hDC), ⟨cv₅, cell_at hc₅ fun o e => hs₆'.extBut _ _ (Ne.symm hDC1) e⟩, hD₆.trans (congrArg some (lst_snoc ys y)), ?_, ?_, ?_, ?_⟩
      · intro j y' own' hy' hw'
        rcases Nat.lt_trichotomy j i with h | h | h
        · rw [List.getElem?_append_left (by omega)] at hy' hw'
          exact hv j y' own' hy' hw'
        · subst h
          rw [List.getElem?_append_right (by omega)] at hy' hw'
          rw [hyl, Nat.sub_self] at hy'
          rw [hol, Nat.sub_self] at hw'
          simp at hy' hw'
          subst hy'; subst hw'
          exact hval
        · rw [List.getElem?_eq_none (by rw [List.length_append, List.length_singleton]; omega)] at hy'; cases hy'
      · intro p hp
        rw [flatten_snoc] at hp
        rcases List.mem_append.mp hp with hp | hp
        · obtain ⟨a1, a2, a3, a4, a6, a5⟩ := hown p hp
          exact ⟨a1, hs₆'.extBut _ _ a3 (up5 _ _ a4 a6 (fun q => a5 (W.sub _ q)) a2), a3, a4, a6, a5⟩
        · obtain ⟨b1, b2⟩ := ho₅ p hp
          have b5 := newF p hp
          have b3 : s₂.heap.get? p.1 = none := by
            cases e : s₂.heap.get? p.1 with
            | none => rfl
            | some o =>
              have b1' : h₃.get? p.1 = none := b1
              rw [up _ _ (fun q => b5 (W.sub _ q)) (hk' _ _ e fun q => b5 (W.sub _ q))] at b1'; cases b1'
          exact ⟨b3, hs₆'.extBut _ _ (newD p hp) b2, newD p hp, newC p hp, newC1 p hp, b5⟩
      · rw [flatten_snoc, List.map_append]
        refine List.nodup_append.mpr ⟨hnd, hnd₅, fun a ha b hb q => ?_⟩
        obtain ⟨p, hp, rfl⟩ := List.mem_map.mp ha
        obtain ⟨p', hp', rfl⟩ := List.mem_map.mp hb
        obtain ⟨_, a2, _, _, _, a5⟩ := hown p hp
        have b1' : h₃.get? p'.1 = none := (ho₅ p' hp').1
        rw [← q, up _ _ (fun q => a5 (W.sub _ q)) a2] at b1'; cases b1'
      · intro b o e hb
        exact hs₆'.extBut _ _ (below b (hDq ▸ Heap.lt_size e)).2.1 (up5 _ _ (below b (hDq ▸ Heap.lt_size e)).1 (below b (hDq ▸ Heap.lt_size e)).2.2 hb (hk' b o e hb))
    · obtain rfl : i = n := by omega
      refine W.done _ _ _ hst' fun h₂ tk₂ hk₂ => ?_
      refine hRR D C h₂ tk₂ (Ne.symm hDC) (fresh C (by rw [hC]; exact Nat.le_succ _)) (fresh D (Nat.le_refl _)) ⟨m', ys, owns, hn'.at' fun o e => hk₂ _ o hCw e, hk₂ _ _ hDw hD', hyl, hol, hv, fun p hp => ?_, hnd, fun b o e hb => hk₂ b o hb (hk' b o e hb)⟩
      obtain ⟨a1, a2, a3, a4, _, a5⟩ := hown p hp
      exact ⟨a1, hk₂ _ _ (fun q => a5 (W.sub _ q)) a2, a3, a4⟩
  exact codeAny_compStart_list (loop _ rfl) (self _ _ _ hst₁ (loop _ rfl))

theorem my_ListComp_c {s : Shared} {Q : Value → Shared → Prop} (hclos : closureFor scope env = pure cl) (hpush : ∀ h, pushCells h scope.names = h.push { cls := .type "cell", data := .cell none }) (hcf : ∀ n, cellsFrom n scope.names cl = (cx, n) :: cl) (hkind : scope.kind = .function)
    (hnames : ∀ y ∈ scope.names, y.2 = .local → scope.names.lookup y.1 = some .local)
    (h : wpAny (model prog w) A (eval iter env) (fun xv s₁ => wpAny (model prog w) A (pyIter xv) (fun it s₂ => CSrcC prog w A target elt scope cl cx env (FinV Q) it s₂) E s₁) E s)
    (hs : ∀ x, foldedSetIterable iter env x = pure x := by intro _; rfl) :
    wpAny (model prog w) A (eval (.ListComp elt [⟨target, iter, [], 0⟩] scope pos) env) Q E s := by
  rw [eval_ListComp]
  refine wpAny_comprehension_free (use := none) rfl hs hclos hkind hnames (wpAny_mono h (fun xv s₁ h₁ => wpAny_mono h₁ (fun it s₂ h₂ => ?_) fun _ _ e => e) fun _ _ e => e)
  obtain ⟨I, fp, wr, n, P, Md, St, val, rfl, W, self, hlive, hsz, hst, hfp, T, fin⟩ := h₂
  refine my_block_c W self hlive hsz hpush hcf hkind hst hfp T fun D C h tk hCD hC₀ hD₀ hB => ?_
  obtain ⟨m', ys, owns, hn, hD, hyl, hol, hv, ho, hnd, hk⟩ := hB
  refine ⟨m', hn, fun h'' hs'' => fin D h'' tk ⟨ys, owns, hs''.extBut _ _ (Ne.symm hCD) hD, hyl, hol, hv, fun p hp => ?_, hnd, hD₀⟩ fun b o e hb => hs''.extBut _ _ (fun q => ?_) (hk b o e hb)⟩
  · obtain ⟨a, b, c, d⟩ := ho p hp
    exact ⟨a, hs''.extBut _ _ d b, c⟩
  · rw [q, hC₀] at e; cases e

end
end Mine
end

-- G6
section
open PySem PySem.W PyProof.Rows PySem.Calls PyProof.V PyProof.Rows.LCg
set_option Elab.async false
set_option maxRecDepth 100000
set_option linter.unusedVariables false
namespace Mine
section
variable {M : Model} {A : Around} {E : Value → Shared → Prop} {s : Shared}
/-- binds all locals, one by one -/
theorem bind_locals {env : Env} {f : Str × Value → PUnit → Sem (ForInStep PUnit)} (hf : ∀ n v u, f (n, v) u = (do storeName env n v; pure (.yield ⟨⟩))) (hk : env.scope.kind = .function) :
    ∀ (binds : List (Str × Value)) (m : Str → Option Value) (s : Shared) (Q : PUnit → Shared → Prop), s.heap.Ns env.locals m → (∀ x ∈ binds, env.kindOf x.1 = some .local) →
      (∀ h' tk', h'.Ns env.locals (bindL env.kindOf binds m) → Heap.SameBut env.locals s.heap h' → Q ⟨⟩ { s with heap := h', toks := tk' }) → wpAny M A (forIn binds ⟨⟩ f) Q E s
  | [], m, s, Q, hn, _, h => by rw [List.forIn_nil]; exact wpAny_pure (h _ _ hn (Heap.SameBut.refl ..))
  | (n, v) :: r, m, s, Q, hn, hl, h => by
    rw [List.forIn_cons, hf]
    have hn1 : env.kindOf n = some .local := hl _ (.head _)
    refine wpAny_bind (wpAny_bind (wpAny_storeName_local hn1 hn (fun h₂ hn₂ hs₂ => ?_) (by rw [hk]; rfl)))
    refine wpAny_pure (bind_locals hf hk r _ _ Q hn₂ (fun x hx => hl x (.tail _ hx)) fun h' tk' hn' hs' => ?_)
    refine h h' tk' ?_ (hs₂.trans hs')
    unfold bindL
    rw [if_pos hn1]
    exact hn'
theorem newFE_fn {scope : Scope} {globals : Addr} {cl : List (Str × Addr)} {binds : List (Str × Value)} {cx qual : Str} {func : Option Addr} {code : Value} {builtins : Addr} {Q : Env → Shared → Prop}
    (hpush : ∀ h, pushCells h scope.names = h.push { cls := .type "cell", data := .cell none }) (hcf : ∀ n, cellsFrom n scope.names cl = (cx, n) :: cl) (hk : scope.kind = .function) (hl : ∀ x ∈ binds, scope.names.lookup x.1 = some .local)
    (hQ : ∀ h' tk', h'.Ns s.heap.objs.size (bindL (fun z => scope.names.lookup z) binds fun _ => none) → h'.get? (s.heap.objs.size + 1) = some { cls := .type "cell", data := .cell none } → (∀ b o, s.heap.get? b = some o → h'.get? b = some o) →
      Q { scope, locals := s.heap.objs.size, globals, cells := (cx, s.heap.objs.size + 1) :: cl, qual, func, code, frame := some s.heap.objs.size, builtins } { s with heap := h', toks := tk' }) :
    wpAny M A (newFunctionEnv scope globals cl binds qual func code none builtins) Q E s := by
  simp only [newFunctionEnv, Option.isSome_none, Bool.false_eq_true, if_false]
  refine wpAny_bind (wpAny_alloc ?_)
  refine wpAny_bind (wpAny_layCells _ (fun name kind cells => by cases hkc : kind == NameKind.cell <;> simp) _ _ _ _ ?_)
  rw [hcf, hpush]
  have hz : (s.heap.push { cls := .type "frame", data := .dict #[] }).objs.size = s.heap.objs.size + 1 := Heap.size_push ..
  rw [show ({ s with heap := s.heap.push { cls := .type "frame", data := .dict #[] } } : Shared).heap.objs.size = s.heap.objs.size + 1 from hz]
  refine wpAny_bind (bind_locals (env := { scope, locals := s.heap.objs.size, globals, cells := (cx, s.heap.objs.size + 1) :: cl, qual, func, code, frame := some s.heap.objs.size, builtins }) (fun _ _ _ => rfl) hk binds (fun _ => none) _ _ ?_ hl fun h' tk' hn' hs' => wpAny_pure (hQ h' tk' hn' ?_ ?_))
  · exact (Heap.Ns.new s.heap (.type "frame")).keeps fun b o e => Heap.get?_push_of_some _ e
  · exact hs'.extBut _ _ (Nat.succ_ne_self _) (hz ▸ Heap.get?_push_size _ rfl)
  · exact fun b o e => hs'.extBut _ _ (Nat.ne_of_lt (Heap.lt_size e)) (Heap.get?_push_of_some _ (Heap.get?_push_of_some _ e))
end
section
variable {prog : Program} {w : World} {A : Around} {s : Shared} {R : Result → Shared → Prop} {name qual : Str} {params : Arguments} {body : List Stmt} {scope : Scope} {cl : List (Str × Addr)} {dV kV doc pm cdv ct : Value} {an : Option Addr} {fo : Obj} {f : Addr} {args : Args} {binds : List (Str × Value)} {cx : Str}
/-- a call of a def that has one cell of its own and closes over cl -/
theorem call_clo (hlim : s.heap.NoLimit) (ho : s.heap.get? f = some fo) (hd : fo.data = .func (fnX name qual params body scope cl dV kV doc pm an cdv ct)) (hcd : s.heap.CodeRec cdv qual) (hroom : A.depth < recursionLimit)
    (hbind : BindsTo s (fnX name qual params body scope cl dV kV doc pm an cdv ct) args binds) (hloc : ∀ y ∈ binds, scope.names.lookup y.1 = some .local)
    (hpush : ∀ h, pushCells h scope.names = h.push { cls := .type "cell", data := .cell none }) (hcf : ∀ n, cellsFrom n scope.names cl = (cx, n) :: cl)
    (h : ∀ L h₁ tk, Fr s.heap L h₁ (bindL (fun z => scope.names.lookup z) binds fun _ => none) → News s.heap L h₁ [(L + 1, { cls := .type "cell", data := .cell none })] → L = s.heap.objs.size →
      wpAny (model prog w) (A.deeper (envX qual scope L f cdv ((cx, L + 1) :: cl))) (execs body (envX qual scope L f cdv ((cx, L + 1) :: cl)))
        (fun fl s' => R (.ok (.ret (match fl with | .ret v => v | _ => .none))) s') (fun _ _ => False) { s with heap := h₁, toks := tk })
    (hco : scope.isCoroutine = false := by rfl) (hgen : scope.isGenerator = false := by rfl) (hk : scope.kind = .function := by rfl) : codeAny (model prog w) A (.call (.ref f) args) R s := by
  refine codeAny_call_function hroom ho hd hco hgen rfl hcd (hbind _ _ _ _ ?_)
  refine newFE_fn hpush hcf hk hloc fun h₁ tk hn hc up => ?_
  refine ⟨hlim.keeps up, codeAny_func ?_⟩
  refine wpAny_mono (h s.heap.objs.size h₁ tk ⟨hn, up, Nat.le_refl _⟩ (fun p hp => ?_) rfl) (fun _ _ q => q) fun _ _ q => q.elim
  rw [List.mem_singleton.mp hp]
  exact ⟨hc, Nat.succ_ne_self _, get?_none_ge (Nat.le_succ _)⟩
end
end Mine
end

-- G7
section
open PySem PySem.W PyProof.Rows PySem.Calls PyProof.V PyProof.Rows.LCg
set_option Elab.async false
set_option maxRecDepth 100000
set_option linter.unusedVariables false
namespace Mine
/-- the ledger with the objects at W as they stand in h' -/
def rel (W : List Addr) (h' : Heap) (news : List (Addr × Obj)) : List (Addr × Obj) := news.map fun p => if p.1 ∈ W then (p.1, (h'.get? p.1).getD p.2) else p
theorem rel_keep {W : List Addr} {h' : Heap} {news : List (Addr × Obj)} {p : Addr × Obj} (hp : p ∈ news) (hn : p.1 ∉ W) : p ∈ rel W h' news := List.mem_map.mpr ⟨p, hp, by rw [if_neg hn]⟩
theorem rel_at {W : List Addr} {h' : Heap} {news : List (Addr × Obj)} {a : Addr} {o o' : Obj} (hp : (a, o) ∈ news) (ha : a ∈ W) (e : h'.get? a = some o') : (a, o') ∈ rel W h' news := List.mem_map.mpr ⟨(a, o), hp, by simp [ha, e]⟩
theorem rel_news {g h h' : Heap} {L : Addr} {W : List Addr} {news : List (Addr × Obj)} (N : News g L h news) (K : Kp W h h') (hW : ∀ a ∈ W, ∃ o, h'.get? a = some o) : News g L h' (rel W h' news) := by
  intro p hp
  obtain ⟨q, hq, e⟩ := List.mem_map.mp hp
  by_cases hm : q.1 ∈ W
  · rw [if_pos hm] at e
    subst e
    obtain ⟨o, eo⟩ := hW _ hm
    exact ⟨by show h'.get? q.1 = some ((h'.get? q.1).getD q.2); rw [eo]; rfl, (N q hq).2⟩
  · rw [if_neg hm] at e
    subst e
    exact ⟨K _ _ (N q hq).1 hm, (N q hq).2⟩
theorem rel_key {W : List Addr} {h' : Heap} {news : List (Addr × Obj)} {p : Addr × Obj} (hp : p ∈ rel W h' news) : ∃ o, (p.1, o) ∈ news := by
  obtain ⟨q, hq, e⟩ := List.mem_map.mp hp
  split at e
  · subst e; exact ⟨q.2, hq⟩
  · subst e; exact ⟨q.2, hq⟩
theorem kp_but {a : Addr} {h h' : Heap} (s : Heap.SameBut a h h') : Kp [a] h h' := fun b o e n => (s.2 b (fun q => n (by rw [q]; exact .head _))).trans e
theorem kp_ext {a : Addr} {h h' : Heap} (s : Heap.ExtBut a h h') : Kp [a] h h' := fun b o e n => s b o (fun q => n (by rw [q]; exact .head _)) e
theorem fr_rel {g h h' : Heap} {L : Addr} {m : Str → Option Value} {W : List Addr} {news : List (Addr × Obj)} (F : Fr g L h m) (N : News g L h news) (K : Kp W h h') (hW : ∀ a ∈ W, ∃ o, (a, o) ∈ news) : Fr g L h' m := by
  have q : ∀ a ∈ W, L ≠ a ∧ g.get? a = none := fun a ha => by
    obtain ⟨o, hm⟩ := hW a ha
    exact ⟨Ne.symm (N _ hm).2.1, (N _ hm).2.2⟩
  obtain ⟨oL, es, ep, hL, rest⟩ := F.ns
  refine ⟨⟨oL, es, ep, K _ _ hL (fun z => (q _ z).1 rfl), rest⟩, fun b o e => K _ _ (F.keep b o e) (fun z => ?_), F.above⟩
  rw [(q _ z).2] at e; cases e
/-- a cell in the ledger -/
def LC (news : List (Addr × Obj)) (c : Addr) (v : Option Value) : Prop := ∃ o, (c, o) ∈ news ∧ o.data = .cell v
/-- a list in the ledger -/
def LL (news : List (Addr × Obj)) (a : Addr) (vs : List Value) : Prop := ∃ k, (a, (⟨.type "list", none, .seq vs.toArray k, #[]⟩ : Obj)) ∈ news
theorem LC.sub {news news' : List (Addr × Obj)} {c : Addr} {v : Option Value} (x : LC news c v) (k : ∀ o, (c, o) ∈ news → (c, o) ∈ news') : LC news' c v := let ⟨o, a, b⟩ := x; ⟨o, k o a, b⟩
theorem LL.sub {news news' : List (Addr × Obj)} {c : Addr} {v : List Value} (x : LL news c v) (k : ∀ o, (c, o) ∈ news → (c, o) ∈ news') : LL news' c v := let ⟨o, a⟩ := x; ⟨o, k _ a⟩
theorem LC.at {g h : Heap} {L : Addr} {news : List (Addr × Obj)} {c : Addr} {v : Option Value} (x : LC news c v) (N : News g L h news) : h.IsCell c v := let ⟨o, a, b⟩ := x; ⟨o, (N _ a).1, b⟩
theorem LL.at {g h : Heap} {L : Addr} {news : List (Addr × Obj)} {c : Addr} {vs : List Value} (x : LL news c vs) (N : News g L h news) : h.IsList c vs.toArray := let ⟨k, a⟩ := x; ⟨_, (N _ a).1, rfl, k, rfl⟩
theorem LL.noDict {g : Heap} {s : Shared} {L : Addr} {news : List (Addr × Obj)} {c : Addr} {vs : List Value} (x : LL news c vs) (N : News g L s.heap news) : s.heap.NoDictAt (.ref c) := let ⟨k, a⟩ := x; ⟨_, (N _ a).1, rfl⟩
theorem LC.key {news : List (Addr × Obj)} {c : Addr} {v : Option Value} (x : LC news c v) : ∃ o, (c, o) ∈ news := let ⟨o, a, _⟩ := x; ⟨o, a⟩
theorem LL.key {news : List (Addr × Obj)} {c : Addr} {v : List Value} (x : LL news c v) : ∃ o, (c, o) ∈ news := let ⟨_, a⟩ := x; ⟨_, a⟩
section
variable {M : Model} {A : Around} {E : Value → Shared → Prop} {s : Shared} {g : Heap} {L a c : Addr} {m : Str → Option Value} {cn : Str} {cs : Scope} {ccd v : Value} {cl : List (Str × Addr)} {x : Str} {pos : Pos} {news : List (Addr × Obj)}
/-- a cell variable is read -/
theorem nC {Q : Value → Shared → Prop} (N : News g L s.heap news) (X : LC news c (some v)) (hc : cl.lookup x = some c) (h : Q v s) (hk : cs.kind = .function) (hx : (envX cn cs L a ccd cl).kindOf x = some .cell) (hb : (x == ("__debug__" : Str)) = false) :
    wpAny M A (eval (.Name x pos) (envX cn cs L a ccd cl)) Q E s := wpAny_Name (wpAny_loadName_cell hk hx hc (X.at N) h) hb
/-- a cell variable is stored -/
theorem sC {Q : Unit → Shared → Prop} {v₀ : Option Value} (F : Fr g L s.heap m) (N : News g L s.heap news) (X : LC news c v₀) (hc : cl.lookup x = some c)
    (h : ∀ h', Fr g L h' m → News g L h' (rel [c] h' news) → LC (rel [c] h' news) c (some v) → Q () { s with heap := h' })
    (hk : cs.kind = .function) (hx : (envX cn cs L a ccd cl).kindOf x = some .cell) : wpAny M A (storeName (envX cn cs L a ccd cl) x v) Q E s := by
  obtain ⟨o, hm, hd⟩ := X
  refine wpAny_storeName_cell hk hx hc ⟨o, (N _ hm).1, hd⟩ fun h' hv hs => ?_
  obtain ⟨o', ho', hd'⟩ := hv
  have K := kp_but hs
  refine h h' (fr_rel F N K (fun b hb => by rw [List.mem_singleton.mp hb]; exact ⟨o, hm⟩)) (rel_news N K fun b hb => by rw [List.mem_singleton.mp hb]; exact ⟨o', ho'⟩) ⟨o', rel_at hm (.head _) ho', hd'⟩
end
end Mine
end

-- G8
section
open PySem PySem.W PyProof.Rows PySem.Calls PyProof.V PyProof.Rows.LCg
set_option Elab.async false
set_option maxRecDepth 100000
set_option linter.unusedVariables false
namespace Mine
section
variable {prog : Program} {w : World} {A : Around} {E : Value → Shared → Prop} {s : Shared} {g h : Heap} {L a c : Addr} {m : Str → Option Value} {v : Value} {news : List (Addr × Obj)} {vs vs' : List Value}
theorem ll_upd {f : Array Value → Array Value} (F : Fr g L h m) (N : News g L h news) (X : LL news a vs) (he : f vs.toArray = vs'.toArray) :
    Fr g L (h.update a (Obj.mapSeq f)) m ∧ News g L (h.update a (Obj.mapSeq f)) (rel [a] (h.update a (Obj.mapSeq f)) news) ∧ LL (rel [a] (h.update a (Obj.mapSeq f)) news) a vs' ∧ Kp [a] h (h.update a (Obj.mapSeq f)) := by
  obtain ⟨k, hm⟩ := X
  have q := PySem.IsL.update (N _ hm).1 f
  rw [he] at q
  have K : Kp [a] h (h.update a (Obj.mapSeq f)) := kp_but (Heap.SameBut.update ..)
  exact ⟨fr_rel F N K (fun b hb => by rw [List.mem_singleton.mp hb]; exact ⟨_, hm⟩), rel_news N K (fun b hb => by rw [List.mem_singleton.mp hb]; exact ⟨_, q⟩), ⟨_, rel_at hm (.head _) q⟩, K⟩
theorem ll_set {Q : Unit → Shared → Prop} {k : Nat} {t : Tok} (F : Fr g L s.heap m) (N : News g L s.heap news) (X : LL news a vs) (hk : k < vs.length) (hl : vs.length ≤ 64)
    (h : ∀ h', Fr g L h' m → News g L h' (rel [a] h' news) → LL (rel [a] h' news) a (vs.set k v) → Q () { s with heap := h' }) : wpAny (model prog w) A (setItem (.ref a) (.int (k : Int) t) v) Q E s := by
  obtain ⟨n, hm⟩ := id X
  obtain ⟨F', N', X', _⟩ := ll_upd (vs' := vs.set k v) (f := fun xs => xs.setIfInBounds k v) F N X (by rw [List.setIfInBounds_toArray])
  exact ki_setAt (n := n) (N _ hm).1 (by omega) (by omega) (by rw [List.size_toArray]; omega) (by rw [Int.toNat_natCast]; exact h _ F' N' X')
theorem ll_append {Q : Value → Shared → Prop} (F : Fr g L s.heap m) (N : News g L s.heap news) (X : LL news a vs) (hl : vs.length ≤ 64)
    (h : ∀ h', Fr g L h' m → News g L h' (rel [a] h' news) → LL (rel [a] h' news) a (vs ++ [v]) → Q .none { s with heap := h' }) : wpAny (model prog w) A (call (.builtin "list.append") [.ref a, v]) Q E s := by
  obtain ⟨n, hm⟩ := id X
  obtain ⟨F', N', X', _⟩ := ll_upd (vs' := vs ++ [v]) (f := fun xs => xs.push v) F N X (by simp)
  exact call_meets PySem.F.slot_list_append ⟨_, (N _ hm).1, rfl⟩ PySem.F.entry_list_append (PySem.F.args_list_append_2 _ _) (PySem.AutoListH.list_append_list_val_0 a vs.toArray n v (by rw [List.size_toArray, sizeLine_eq]; omega)) ⟨(N _ hm).1, h _ F' N' X'⟩
theorem ll_pop {Q : Value → Shared → Prop} {k : Nat} {t : Tok} (F : Fr g L s.heap m) (N : News g L s.heap news) (X : LL news a vs) (hk : vs[k]? = some v) (hl : vs.length ≤ 64)
    (h : ∀ h', Fr g L h' m → News g L h' (rel [a] h' news) → LL (rel [a] h' news) a (vs.eraseIdx k) → Q v { s with heap := h' }) : wpAny (model prog w) A (call (.builtin "list.pop") [.ref a, .int (k : Int) t]) Q E s := by
  obtain ⟨n, hm⟩ := id X
  have hkl : k < vs.length := (List.getElem?_eq_some_iff.mp hk).1
  obtain ⟨F', N', X', _⟩ := ll_upd (vs' := vs.eraseIdx k) (f := fun xs => xs.eraseIdxIfInBounds k) F N X (by
    unfold Array.eraseIdxIfInBounds
    rw [dif_pos (by rw [List.size_toArray]; exact hkl)]
    apply Array.toList_inj.mp
    rw [Array.toList_eraseIdx])
  have e1 : Builtin.List.listFitsIndex (k : Int) = true := fitsIndex_of (Int.natCast_nonneg k) (by omega)
  have e2 : seqIndex? (k : Int) vs.toArray.size = some k := by
    unfold seqIndex?
    simp only [List.size_toArray, show ¬ (k : Int) < 0 by omega, if_false]
    rw [if_pos (by simp only [Bool.and_eq_true, decide_eq_true_eq]; omega), Int.toNat_natCast]
  have e3 : vs.toArray.size ≤ sizeLine := by rw [List.size_toArray, sizeLine_eq]; omega
  have e4 : vs.toArray[k]? = some v := by rw [List.getElem?_toArray]; exact hk
  generalize hi : (k : Int) = i at *
  have mt := PySem.MeetsSeq.list_pop_at a vs.toArray n i t k v e1 e2 e4 e3
  refine call_meets PySem.F.slot_list_pop ⟨_, (N _ hm).1, rfl⟩ PySem.F.entry_list_pop (PySem.F.args_list_pop_2 _ _) mt ?_
  exact ⟨(N _ hm).1, h _ F' N' X'⟩
theorem ll_method {Q : Value × List Value → Shared → Prop} {name : Str} {id : String} {pl : Sem Bool} (N : News g L s.heap news) (X : LL news a vs) (slot : Slot "list" name id) (hty : typeOf (.builtin id) = pure (.type "method_descriptor")) (h : Q (.builtin id, [.ref a]) s) :
    wpAny (model prog w) A (getMethod (.ref a) name pl) Q E s := getMethod_list_of slot hty (X.at N) (X.noDict N) h
end
end Mine
end

-- G9
section
open PySem PySem.W PyProof.Rows PySem.Calls PyProof.V PyProof.Rows.LCg
set_option Elab.async false
set_option maxRecDepth 100000
set_option linter.unusedVariables false
namespace Mine
theorem flat_single {α β : Type} (f : α → β) (l : List α) : (l.map fun a => [f a]).flatten = l.map f := by
  induction l with
  | nil => rfl
  | cons a r ih => simp [ih]
theorem nodup_inj {n : Nat} {ra : Nat → Addr} (h : ((List.range n).map ra).Nodup) : ∀ i < n, ∀ j < n, i ≠ j → ra i ≠ ra j := fun i hi j hj hne q => by
  have h1 := List.pairwise_iff_getElem.mp (List.nodup_iff_pairwise_ne.mp h)
  rcases Nat.lt_or_gt_of_ne hne with hlt | hlt
  · exact h1 i j (by simpa using hi) (by simpa using hj) hlt (by simpa using q)
  · exact h1 j i (by simpa using hj) (by simpa using hi) hlt (by simpa using q.symm)
/-- the lists that a nested comprehension makes -/
theorem rows_of {n : Nat} {ys : List Value} {owns : List (List (Addr × Obj))} {vals : Nat → List Int} (hyl : ys.length = n) (hol : owns.length = n)
    (hv : ∀ i y own, ys[i]? = some y → owns[i]? = some own → ∃ l zs, y = Value.ref l ∧ own = [(l, LCg.lst zs)] ∧ IntsAre zs (vals i)) (hnd : (owns.flatten.map (·.1)).Nodup) :
    ∃ ra : Nat → Addr, ys = (List.range n).map (fun i => Value.ref (ra i)) ∧ (∀ i < n, ∃ zs, (ra i, LCg.lst zs) ∈ owns.flatten ∧ IntsAre zs (vals i)) ∧ (∀ i < n, ∀ j < n, i ≠ j → ra i ≠ ra j) ∧ (∀ p ∈ owns.flatten, ∃ i, i < n ∧ p.1 = ra i) := by
  let ra : Nat → Addr := fun i => match ys[i]? with | some (.ref l) => l | _ => 0
  have key : ∀ i, i < n → ∃ zs, ys[i]? = some (.ref (ra i)) ∧ owns[i]? = some [(ra i, LCg.lst zs)] ∧ IntsAre zs (vals i) := fun i hi => by
    obtain ⟨l, zs, e1, e2, e3⟩ := hv i ys[i] owns[i] (by simp) (by simp)
    have ey : ys[i]? = some (.ref l) := by rw [List.getElem?_eq_getElem (by omega), e1]
    have er : ra i = l := by show (match ys[i]? with | some (.ref l) => l | _ => 0) = l; rw [ey]
    rw [er]
    exact ⟨zs, ey, by rw [List.getElem?_eq_getElem (by omega), e2], e3⟩
  have hown : owns.map (·.map (·.1)) = (List.range n).map fun i => [ra i] := by
    refine List.ext_getElem (by simp [hol]) fun i h1 h2 => ?_
    have hi : i < n := by simpa using h2
    obtain ⟨zs, _, e2, _⟩ := key i hi
    have e3 : owns[i]'(by omega) = [(ra i, LCg.lst zs)] := (List.getElem?_eq_some_iff.mp e2).2
    rw [List.getElem_map, e3]
    simp
  have hfl : owns.flatten.map (·.1) = (List.range n).map ra := by
    rw [List.map_flatten, hown, flat_single]
  refine ⟨ra, ?_, fun i hi => ?_, nodup_inj (hfl ▸ hnd), fun p hp => ?_⟩
  · refine List.ext_getElem (by simp [hyl]) fun i h1 h2 => ?_
    obtain ⟨zs, e1, _, _⟩ := key i (by simpa using h2)
    have e3 : ys[i] = .ref (ra i) := (List.getElem?_eq_some_iff.mp e1).2
    rw [e3]; simp
  · obtain ⟨zs, _, e2, e3⟩ := key i hi
    exact ⟨zs, List.mem_flatten.mpr ⟨_, List.mem_of_getElem? e2, .head _⟩, e3⟩
  · have : p.1 ∈ owns.flatten.map (·.1) := List.mem_map.mpr ⟨p, hp, rfl⟩
    rw [hfl] at this
    obtain ⟨i, hi, e⟩ := List.mem_map.mp this
    exact ⟨i, by simpa using hi, e.symm⟩
theorem finV_rows {Q : Value → Shared → Prop} {s : Shared} {h1 : Heap} {I : Addr} {tk1 : Nat} {g : Heap} {L : Addr} {m : Str → Option Value} {news : List (Addr × Obj)} {n : Nat} {vals : Nat → List Int} (F : Fr g L s.heap m) (N : News g L s.heap news) (hI : s.heap.get? I = none) (up1 : ∀ b o, s.heap.get? b = some o → h1.get? b = some o)
    (done : ∀ h tk cel (ra : Nat → Addr) robj, Fr g L h m → News g L h ((cel, LCg.lst ((List.range n).map fun r => Value.ref (ra r))) :: (robj ++ news)) → (∀ r < n, ∃ zs, (ra r, LCg.lst zs) ∈ robj ∧ IntsAre zs (vals r)) → (∀ r < n, ∀ r' < n, r ≠ r' → ra r ≠ ra r') →
      s.heap.get? cel = none → (∀ r < n, s.heap.get? (ra r) = none ∧ ra r ≠ cel) → (∀ b o, s.heap.get? b = some o → h.get? b = some o) → (∀ p ∈ robj, ∃ i, i < n ∧ p.1 = ra i) → Q (.ref cel) { s with heap := h, toks := tk }) :
    FinV Q { s with heap := h1, toks := tk1 } [I] n (fun r y own => ∃ l zs, y = Value.ref l ∧ own = [(l, LCg.lst zs)] ∧ IntsAre zs (vals r)) := by
  intro Dl h tk hfin hk
  obtain ⟨ys, owns, e1, e2, e3, e4, e5, e6, e7⟩ := hfin
  obtain ⟨ra, r1, r2, r3, r4⟩ := rows_of e2 e3 e4 e6
  have K : ∀ b o, s.heap.get? b = some o → h.get? b = some o := fun b o e => hk b o (up1 b o e) (fun q => by rw [List.mem_singleton.mp q, hI] at e; cases e)
  have no1 : ∀ a, h1.get? a = none → s.heap.get? a = none := fun a na => by
    cases q : s.heap.get? a with
    | none => rfl
    | some o => rw [up1 _ _ q] at na; cases na
  have gno : ∀ a, s.heap.get? a = none → a ≠ L ∧ g.get? a = none := fun a na => by
    refine ⟨fun q => ?_, ?_⟩
    · obtain ⟨oL, _, _, e, _⟩ := F.ns
      rw [q, e] at na; cases na
    · cases q : g.get? a with
      | none => rfl
      | some o => rw [F.keep _ _ q] at na; cases na
  refine done h tk Dl ra owns.flatten (F.keeps K) ?_ r2 r3 (no1 _ e7) ?_ K r4
  · have NR := N.grown K
    intro p hp
    rcases List.mem_cons.mp hp with rfl | hp
    · exact ⟨by rw [← r1]; exact e1, gno _ (no1 _ e7)⟩
    · rcases List.mem_append.mp hp with hp | hp
      · exact ⟨(e5 p hp).2.1, gno _ (no1 _ (e5 p hp).1)⟩
      · exact NR p hp
  · intro r hr
    obtain ⟨zs, hz, _⟩ := r2 r hr
    exact ⟨no1 _ (e5 _ hz).1, (e5 _ hz).2.2⟩
end Mine
end

-- D4
section
open PySem PySem.W PyProof.Rows PySem.Calls PyProof.V PyProof.Rows.LCg
set_option Elab.async false
set_option maxRecDepth 100000
set_option linter.unusedVariables false
namespace Mine
theorem map_eraseIdx {α β : Type} (f : α → β) : ∀ (l : List α) (i : Nat), (l.eraseIdx i).map f = (l.map f).eraseIdx i
  | [], i => by simp
  | a :: r, 0 => rfl
  | a :: r, i + 1 => by simp [map_eraseIdx f r i]
theorem any_names {b : List (Str × Int)} {k : Str} : (b.map (·.1)).any (· == k) = inBook b k := by
  unfold inBook
  rw [List.any_map]
  congr 1
theorem upsert_fst {b : List (Str × Int)} {k : Str} {v : Int} (h : inBook b k = true) : (upsert b k v).map (·.1) = b.map (·.1) := by
  unfold upsert
  rw [if_pos h, List.map_map]
  refine List.map_congr_left fun p _ => ?_
  simp only [Function.comp]
  split <;> rfl
theorem upsert_snd {b : List (Str × Int)} {k : Str} {v : Int} (hn : (b.map (·.1)).Nodup) (h : inBook b k = true) : (upsert b k v).map (·.2) = (b.map (·.2)).set ((b.map (·.1)).idxOf k) v := by
  unfold upsert
  rw [if_pos h]
  clear h
  induction b with
  | nil => rfl
  | cons p r ih =>
    rw [List.map_cons, List.nodup_cons] at hn
    rw [List.map_cons, List.map_cons, List.map_cons, List.map_cons]
    by_cases q : p.1 = k
    · rw [if_pos q, q, List.idxOf_cons_self, List.set_cons_zero]
      congr 1
      rw [List.map_map]
      refine List.map_congr_left fun z hz => ?_
      have : ¬ z.1 = k := fun e => hn.1 (List.mem_map.mpr ⟨z, hz, by rw [e, q]⟩)
      simp [this]
    · rw [if_neg q, show List.idxOf k (p.1 :: r.map (·.1)) = List.idxOf k (r.map (·.1)) + 1 by simp [List.idxOf_cons, beq_eq_false_iff_ne.mpr q], List.set_cons_succ, ih hn.2]
theorem idxOf_get {l : List Str} {k : Str} (h : k ∈ l) : l[l.idxOf k]? = some k := by
  have := List.idxOf_lt_length_of_mem h
  rw [List.getElem?_eq_getElem this]
  simp
theorem idxOf_first {l : List Str} {k : Str} {i : Nat} {y : Str} (hi : i < l.idxOf k) (e : l[i]? = some y) : y ≠ k := by
  have := List.not_of_lt_findIdx (p := (· == k)) (xs := l) hi
  have e2 : l[i]'((List.getElem?_eq_some_iff.mp e).1) = y := (List.getElem?_eq_some_iff.mp e).2
  intro q
  simp [e2, q] at this
theorem mem_of_in {b : List (Str × Int)} {k : Str} (h : inBook b k = true) : k ∈ b.map (·.1) := by
  rw [← any_names, List.any_eq_true] at h
  obtain ⟨y, hy, q⟩ := h
  rw [← eq_of_beq q]; exact hy
theorem dropLeast_fst {b : List (Str × Int)} : (dropLeast b).map (·.1) = (b.map (·.1)).eraseIdx (leastIdx (b.map (·.2))) := by unfold dropLeast; rw [map_eraseIdx]
theorem dropLeast_snd {b : List (Str × Int)} : (dropLeast b).map (·.2) = (b.map (·.2)).eraseIdx (leastIdx (b.map (·.2))) := by unfold dropLeast; rw [map_eraseIdx]
/-- a step keeps the book's names apart and its size -/
theorem bookStep_keys {P : Nat} {b : List (Str × Int)} {mk v : Int} {k : Str} (hn : (b.map (·.1)).Nodup) (hb : b.length ≤ P) (hP : 0 < P) : ((bookStep P b mk k v).1.map (·.1)).Nodup ∧ (bookStep P b mk k v).1.length ≤ P := by
  by_cases hin : inBook b k = true
  · have e : bookStep P b mk k v = (upsert b k v, mk) := by unfold bookStep; split <;> simp [hin]
    rw [e]
    exact ⟨by show ((upsert b k v).map _).Nodup; rw [upsert_fst hin]; exact hn, by show (upsert b k v).length ≤ P; rw [upsert_in hin]; exact hb⟩
  · have hin' : inBook b k = false := by simpa using hin
    have hk : k ∉ b.map (·.1) := fun q => hin (by rw [← any_names, List.any_eq_true]; exact ⟨k, q, by simp⟩)
    have nd : ((b ++ [(k, v)]).map (·.1)).Nodup := by
      rw [List.map_append]
      refine List.nodup_append.mpr ⟨hn, by simp, fun a ha c hc q => ?_⟩
      simp at hc
      exact hk (by rw [← hc, ← q]; exact ha)
    by_cases hr : b.length < P
    · have e : bookStep P b mk k v = (b ++ [(k, v)], mk) := by unfold bookStep; rw [if_pos hr, upsert_out hin']
      rw [e]
      exact ⟨nd, by show (b ++ [(k, v)]).length ≤ P; rw [List.length_append, List.length_singleton]; omega⟩
    · by_cases hm : mk < v
      · have e : bookStep P b mk k v = (dropLeast (b ++ [(k, v)]), lmin ((dropLeast (b ++ [(k, v)])).map (·.2))) := by unfold bookStep; rw [if_neg hr, if_neg hin, if_pos hm]
        rw [e]
        refine ⟨?_, ?_⟩
        · show ((dropLeast _).map _).Nodup
          rw [dropLeast_fst]
          exact nd.sublist (List.eraseIdx_sublist ..)
        · have := dropLeast_length (b := b ++ [(k, v)]) (by simp)
          rw [List.length_append, List.length_singleton] at this
          show (dropLeast _).length ≤ P
          omega
      · have e : bookStep P b mk k v = (b, mk) := by unfold bookStep; rw [if_neg hr, if_neg hin, if_neg hm]
        rw [e]
        exact ⟨hn, hb⟩
end Mine
end

section
open PySem PySem.W PyProof.Rows PySem.Calls PyProof.V
set_option Elab.async false
set_option maxRecDepth 100000
set_option linter.unusedVariables false
namespace Mine
local macro_rules | `(tactic| walk_at "go") => `(tactic| first
  | with_reducible refine wpAny_execs_cons ?_
  | with_reducible refine wpAny_execs_nil ?_
  | with_reducible refine wpAny_Return_some ?_
  | with_reducible refine nameX_L (by assumption) (by with_unfolding_all first | rfl | assumption) ?_ (by with_unfolding_all rfl) (by with_unfolding_all rfl) (by decide)
  | with_reducible refine nameX_C (by assumption) (by with_unfolding_all rfl) (by k_dflt k_mem) (by assumption) ?_ (by with_unfolding_all rfl) (by with_unfolding_all rfl) (by decide)
  | with_reducible refine cN_L (by assumption) (by assumption) ?_ (by with_unfolding_all rfl) (by with_unfolding_all rfl) (by decide)
  | with_reducible refine cN_C (by with_unfolding_all rfl) (by assumption) ?_ (by with_unfolding_all rfl) (by with_unfolding_all rfl) (by decide)
  | with_reducible refine wpAny_Constant_int ?_
  | with_reducible refine Constant_none ?_
  | with_reducible refine Constant_bool ?_
  | with_reducible refine Calls.Constant_str ?_
  | with_reducible refine wpAny_BinOp ?_
  | with_reducible refine wpAny_isTrue_Compare1 ?_ (by with_unfolding_all rfl)
  | with_reducible refine wpAny_Compare1 ?_ (by with_unfolding_all rfl)
  | with_reducible refine wpAny_truthy_bool ?_
  | with_reducible refine iteTb ?_
  | with_reducible refine iteFb ?_
  | with_reducible refine wpAny_is_self (by with_unfolding_all rfl) ?_
  | with_reducible refine wpAny_If ?_
  | with_reducible refine IfExp_ ?_
  | with_reducible refine wpAny_Assign_Name ?_ (by with_unfolding_all rfl)
  | with_reducible refine Attribute_Name_ ?_ (by with_unfolding_all rfl)
  | with_reducible refine MethodCall_ ?_ (by with_unfolding_all rfl)
  | with_reducible refine Call_ ?_ (by with_unfolding_all rfl)
  | with_reducible refine Subscript_ ?_
  | with_reducible refine spliced_more ?_ (by with_unfolding_all rfl)
  | with_reducible refine spliced_none ?_
  | with_reducible refine Pv.callWith_type1 ?_ (by with_unfolding_all rfl) (by with_unfolding_all rfl)
  | with_reducible refine PyProof.Rows.callWith_builtin1 ?_ (by with_unfolding_all rfl) (by with_unfolding_all rfl)
  | with_reducible refine add_int ?_
  | with_reducible refine sub_int ?_
  | with_reducible refine iadd_int ?_)
local macro_rules | `(tactic| walk_at "goes") => `(tactic| repeat' (walk_at "go"))

-- H1
section
section
variable {w : World} {A : Around} {E : Value → Shared → Prop} {s : Shared} {x dx : Addr} {r : HV} {Q : Value → Shared → Prop}
theorem fnAt_K {w : World} {h : Heap} {f : Addr} (B : Bs w h) (e : fnIn (KK w) f = true) : FnAt f h := by
  unfold fnIn at e
  split at e
  · rename_i ho; exact ⟨_, _, _, _, B.X _ _ ho⟩
  · cases e
theorem fnAt_keeps {h h' : Heap} {f : Addr} (X : FnAt f h) (k : ∀ b o, h.get? b = some o → h'.get? b = some o) : FnAt f h' := let ⟨a, b, c, d, e⟩ := X; ⟨a, b, c, d, k _ _ e⟩
/-- what the handed-in reading does: from the heap H on, asked for x and D, it makes a new list of vals, and changes nothing -/
def HSpec (w : World) (H : Heap) (hf : Addr) (x : Str) (D : Nat) (vals : List Int) : Prop :=
  FnAt hf H ∧ ∀ (A : Around) (s : Shared) (tx tD : Tok) (Q E : Value → Shared → Prop), A.depth < 850 → A.handled = none → (∀ b o, H.get? b = some o → s.heap.get? b = some o) →
    (∀ l h' tk' ys, Kp [] s.heap h' → s.heap.get? l = none → h'.get? l = some (LCg.lst ys) → IntsAre ys vals → Q (.ref l) { s with heap := h', toks := tk' }) →
    wpAny (model PG w) A (call (.ref hf) [.str x tx, .int (D : Int) tD]) Q E s
theorem hashes_spec {hf : Addr} {key : Str} {tk : Tok} {D : Nat} {vals : List Int} {tD : Tok} {H : Heap} (hH : ∀ b o, H.get? b = some o → s.heap.get? b = some o) (hS : HSpec w H hf key D vals)
    (B : Bs w s.heap) (I : HIn w s.heap x dx r) (hvH : r.vH = .ref hf) (hvD : r.vD = .int (D : Int) tD) (hroom : A.depth < 840) (hh : A.handled = none)
    (h : ∀ l h' tk' ys, Kp [] s.heap h' → s.heap.get? l = none → h'.get? l = some (LCg.lst ys) → IntsAre ys vals → Q (.ref l) { s with heap := h', toks := tk' }) :
    wpAny (model PG w) A (call (.ref 165) [.ref x, .str key tk]) Q E s := by
  refine wpAny_call ?_
  refine call_K [] (fun _ h => nomatch h) B (by rfl) (by rfl) (by show A.depth < 1000; omega) (binds := [("self", .ref x), ("key", .str key tk), ("depth", .none)]) (binds_K B.X (by rfl) (by rfl) (by rfl) (by rfl) (by rfl)) (locs (by rfl)) ?_ (by decide)
  intro g L h₁ F N K _ hL
  have up : ∀ b o, s.heap.get? b = some o → h₁.get? b = some o := fun b o e => F.keep _ _ (K _ _ e (by simp))
  have B₁ := B.keeps up
  have I₁ := I.keeps up
  walk_at "goes"
  refine o_H B₁ I₁ hvH ?_
  refine callWith_F (fnAt_keeps hS.1 fun b o e => up _ _ (hH _ _ e)) ?_ (by with_unfolding_all rfl) (by with_unfolding_all rfl)
  walk_at "goes"
  refine p_depth B₁ I₁ (by show A.depth + 1 < 890; omega) hvD ?_
  intro h₂ tk₂ K₂
  walk_at "goes"
  have up₂ : ∀ b o, s.heap.get? b = some o → h₂.get? b = some o := fun b o e => K₂ b o (up b o e) (by simp)
  refine ⟨fnAt_keeps hS.1 fun b o e => up₂ _ _ (hH _ _ e), ?_⟩
  refine hS.2 _ _ _ _ _ _ (by show A.depth + 1 < 850; omega) hh (fun b o e => up₂ _ _ (hH _ _ e)) ?_
  intro l h' tk' ys K' hl hl' hy
  exact h l h' tk' ys (fun b o e _ => K' _ _ (up₂ b o e) (by simp)) (none_of_up up₂ hl) hl' hy
end
end

-- H2
section
section
variable {w : World} {A : Around} {E : Value → Shared → Prop} {s : Shared} {x dx : Addr} {r : HV} {Q : Value → Shared → Prop}
theorem mul_ok {i W : Nat} (hW : W ≤ 8) : IntMulOk (i : Int) (W : Int) := IntMulOk.of_right (intBits_le_64 (by omega) (by omega))
theorem hash_idx {W c i : Nat} (hc : c < W) : Int.fmod ((c + W * i : Nat) : Int) (W : Int) + (i : Int) * (W : Int) = ((c + W * i : Nat) : Int) := by
  rw [Int.fmod_eq_emod_of_nonneg _ (by omega), ← Int.natCast_emod, idx_mod hc]
  push_cast
  rw [Int.mul_comm (W : Int)]
theorem minq_spec {l : Addr} {vs : List Value} {n0 : Int} {t0 : Tok} (B : Bs w s.heap) (hl : s.heap.IsList l (Value.int n0 t0 :: vs).toArray) (hroom : A.depth < 850)
    (h : ∀ h' tk' t, Kp [] s.heap h' → Q (.int n0 t) { s with heap := h', toks := tk' }) : wpAny (model PG w) A (call (.ref 221) [.ref l]) Q E s := by
  refine wpAny_call ?_
  refine call_K [] (fun _ h => nomatch h) B (by rfl) (by rfl) (by show A.depth < 1000; omega) (binds := [("results", .ref l)]) (.of_eq (by rfl)) (locs (by rfl)) ?_ (by decide)
  intro g L h₁ F N K _ hL
  have up : ∀ b o, s.heap.get? b = some o → h₁.get? b = some o := fun b o e => F.keep _ _ (K _ _ e (by simp))
  walk_at "goes"
  refine sub_list (isList_keeps hl up) (by decide) (by decide) (by rfl) ?_ (by with_unfolding_all rfl)
  exact h _ _ _ fun b o e _ => up b o e
theorem check_alt_spec {W D : Nat} {tW : Tok} {cs : Nat → Nat} {cell : Nat → Nat → Int} {hl bl : Addr} {hys bys : List Value} (B : Bs w s.heap) (I : HIn w s.heap x dx r) (hW : r.vW = .int (W : Int) tW) (hB : r.vB = .ref bl) (hQ : r.vQ = .ref 221)
    (hb : s.heap.IsList bl bys.toArray) (hbi : IntsAre bys (binsOf W D cell)) (hh : s.heap.IsList hl hys.toArray) (hhi : IntsAre hys (colsHash W D cs)) (hc : ∀ i < D, cs i < W) (hWs : W ≤ 8) (hD0 : 0 < D) (hDs : D ≤ 8) (hroom : A.depth < 800) (hhd : A.handled = none)
    (h : ∀ h' tk' t, Kp [] s.heap h' → Q (.int (lmin (picks D cell cs)) t) { s with heap := h', toks := tk' }) :
    wpAny (model PG w) A (call (.ref 207) [.ref x, .ref hl]) Q E s := by
  have hlen : hys.length = D := by rw [hhi.length]; simp [colsHash]
  refine wpAny_call ?_
  refine call_cells [] (fun _ h => nomatch h) B (by rfl) (by rfl) (by show A.depth < 1000; omega) (binds := [("self", .ref x), ("hashes", .ref hl)]) (.of_eq (by rfl)) (by rfl) (by decide) ?_
  intro g L h₁ tk cells F N Y K _ hL
  obtain ⟨oc, rfl, hoc⟩ := (show CellsAre _ [(Str.ofString "self", L + 1)] cells from Y).one
  replace hoc : oc.data = .cell (some (.ref x)) := hoc
  have Kg : ∀ b o, s.heap.get? b = some o → g.get? b = some o := fun b o e => K _ _ e (by simp)
  have Bg := B.keeps Kg
  have Ig := I.keeps Kg
  have hbg := isList_keeps hb Kg
  have hhg := isList_keeps hh Kg
  replace N : News g L h₁ [(L + 1, oc)] := N
  walk_at "go"
  refine my_Assign_ListComp (by with_unfolding_all rfl) (by rfl) (by decide) (by rfl) (by decide) (by rfl) (by rfl) ?_
  walk_at "go"
  refine b_enumerate F Bg ?_ rfl rfl
  walk_at "goes"
  refine csrc_enum (fun i y => ∃ t, y = .int ((cs i + W * i : Nat) : Int) t) hhd (isList_keeps hhg F.keep) (by rw [sizeLine_eq]; omega) (by rfl) (by rfl) (by rfl) (by decide) ?_ ?_
  · intro i v t C m₃ h tk E' hv hn hma hmb up
    have hi : i < D := by have := (List.getElem?_eq_some_iff.mp hv).1; omega
    obtain ⟨tv, rfl⟩ := ints_at hhi hv (colsHash_get hi)
    have hcell : h.IsCell (L + 1) (some (.ref x)) := ⟨oc, up _ _ (N _ (.head _)).1, hoc⟩
    have kg : ∀ b o, g.get? b = some o → h.get? b = some o := fun b o e => up _ _ (F.keep _ _ e)
    walk_at "goes"
    refine p_width (Bg.keeps kg) (Ig.keeps kg) (by show A.depth + 1 < 890; omega) hW ?_
    intro h2 tk2 K2
    have k2 := K2.all
    have hn2 : h2.Ns C m₃ := hn.at' fun o e => k2 _ o e
    have hcell2 : h2.IsCell (L + 1) (some (.ref x)) := hcell.keeps k2
    have kg2 : ∀ b o, g.get? b = some o → h2.get? b = some o := fun b o e => k2 _ _ (kg _ _ e)
    refine mod_int' (by have := hc i hi; omega) ?_
    walk_at "goes"
    refine p_width (Bg.keeps kg2) (Ig.keeps kg2) (by show A.depth + 1 < 890; omega) hW ?_
    intro h3 tk3 K3
    have k3 := K3.all
    refine mul_int ?_ (mul_ok hWs)
    walk_at "goes"
    rw [hash_idx (hc i hi)]
    exact ⟨⟨_, rfl⟩, h3, _, rfl, fun b o e => k3 _ _ (k2 _ _ e)⟩
  · intro h₂ up₂
    refine finL_plain _ F N up₂ (fun b hb => ?_) ?_
    · rcases List.mem_cons.mp hb with rfl | hb
      · exact get?_none_ge (Nat.le_succ _)
      · rw [List.mem_singleton.mp hb]; exact get?_none_ge (Nat.le_refl _)
    intro D' h4 tk4 ys F4 N4 hyl hyv hoff
    have hyi : IntsAre ys (colsHash W D cs) := ints_of (by rw [hyl, hlen]) hyv
    walk_at "goes"
    refine o_Q (Bg.keeps F4.keep) (Ig.keeps F4.keep) hQ ?_
    refine callWith_F (fnAt_K (Bg.keeps F4.keep) (by kernel_rfl)) ?_ (by with_unfolding_all rfl) (by with_unfolding_all rfl)
    walk_at "goes"
    refine b_sorted F4 Bg ?_ rfl rfl
    walk_at "goes"
    refine my_ListComp (by rfl) (by decide) (by rfl) (by decide) ?_
    walk_at "goes"
    refine csrc_list (fun i y => ∃ t, y = .int (cell i (cs i)) t) hhd (lst_list (N4 _ (.head _)).1) (by rw [sizeLine_eq]; omega) (by rfl) (by rfl) ?_ ?_
    · intro i v C m₃ h5 tk5 E' hv hn hm up
      have hi : i < D := by have := (List.getElem?_eq_some_iff.mp hv).1; omega
      obtain ⟨tv, rfl⟩ := ints_at hyi hv (colsHash_get hi)
      have hcell : h5.IsCell (L + 1) (some (.ref x)) := ⟨oc, up _ _ (N4 _ (.tail _ (.head _))).1, hoc⟩
      have kg : ∀ b o, g.get? b = some o → h5.get? b = some o := fun b o e => up _ _ (F4.keep _ _ e)
      walk_at "goes"
      refine f_B (Bg.keeps kg) (Ig.keeps kg) hB ?_
      walk_at "goes"
      obtain ⟨t, hx⟩ := hbi.get _ _ (binsOf_get (cell := cell) hi (hc i hi))
      refine sub_list (isList_keeps hbg kg) (by omega) (by have := idx_lt hi (hc i hi); have : W * D ≤ 8 * 8 := Nat.mul_le_mul hWs hDs; omega) (by rw [Int.toNat_natCast]; exact hx) ?_ (by with_unfolding_all rfl)
      exact ⟨⟨t, rfl⟩, h5, _, rfl, fun b o e => e⟩
    · intro h5 up5
      refine finV_plain _ up5 (fun b hb => by rw [List.mem_singleton.mp hb]; exact get?_none_ge (Nat.le_refl _)) ?_
      intro D6 h6 tk6 hmade k6
      obtain ⟨zs, hz, hzl, hzv, hzn⟩ := hmade
      have hzi : IntsAre zs (picks D cell cs) := ints_of (by rw [hzl, hyl, hlen]) hzv
      walk_at "goes"
      refine sorted_N (F4.keeps k6) (N4.grown k6) (lst_list hz) hzi (by omega) ?_
      intro h7 zs' ns' e F7 N7 hi7 hp hs
      have hne : picks D cell cs ≠ [] := by
        intro q
        have := congrArg List.length q
        simp [picks] at this; omega
      obtain ⟨rest, rfl⟩ := head_sorted hp hs hne
      cases hi7 with
      | cons n t hr =>
        walk_at "goes"
        refine ⟨fnAt_K (Bg.keeps F7.keep) (by kernel_rfl), ?_⟩
        refine minq_spec (Bg.keeps F7.keep) ⟨_, (N7 _ (.head _)).1, rfl, _, rfl⟩ (by show A.depth + 1 < 850; omega) ?_
        intro h8 tk8 t8 K8
        exact h _ _ _ fun b o e' _ => K8.all _ _ (F7.keep _ _ (Kg _ _ e'))
end
end

-- H3
section
section
variable {w : World} {A : Around} {E : Value → Shared → Prop} {s : Shared} {x dx : Addr} {r : HV} {Q : Value → Shared → Prop}
theorem check_spec {W D : Nat} {tW tD tk : Tok} {cs : Nat → Nat} {cell : Nat → Nat → Int} {hf bl : Addr} {bys : List Value} {key : Str} {H : Heap} (hH : ∀ b o, H.get? b = some o → s.heap.get? b = some o) (hS : HSpec w H hf key D (colsHash W D cs))
    (B : Bs w s.heap) (I : HIn w s.heap x dx r) (hW : r.vW = .int (W : Int) tW) (hvD : r.vD = .int (D : Int) tD) (hvH : r.vH = .ref hf) (hB : r.vB = .ref bl) (hQ : r.vQ = .ref 221)
    (hb : s.heap.IsList bl bys.toArray) (hbi : IntsAre bys (binsOf W D cell)) (hc : ∀ i < D, cs i < W) (hWs : W ≤ 8) (hD0 : 0 < D) (hDs : D ≤ 8) (hroom : A.depth < 790) (hhd : A.handled = none)
    (h : ∀ h' tk' t, Kp [] s.heap h' → Q (.int (lmin (picks D cell cs)) t) { s with heap := h', toks := tk' }) :
    wpAny (model PG w) A (call (.ref 202) [.ref x, .str key tk]) Q E s := by
  refine wpAny_call ?_
  refine call_K [] (fun _ h => nomatch h) B (by rfl) (by rfl) (by show A.depth < 1000; omega) (binds := [("self", .ref x), ("key", .str key tk)]) (.of_eq (by rfl)) (locs (by rfl)) ?_ (by decide)
  intro g L h₁ F N K _ hL
  have Kg : ∀ b o, s.heap.get? b = some o → g.get? b = some o := fun b o e => K _ _ e (by simp)
  have Bg := B.keeps Kg
  have Ig := I.keeps Kg
  have hbg := isList_keeps hb Kg
  walk_at "goes"
  refine m_check_alt (Bg.keeps F.keep) (Ig.keeps F.keep) ?_
  refine callWith_F (fnAt_K (Bg.keeps F.keep) (by kernel_rfl)) ?_ (by with_unfolding_all rfl) (by with_unfolding_all rfl)
  walk_at "goes"
  refine m_hashes (Bg.keeps F.keep) (Ig.keeps F.keep) ?_
  refine callWith_F (fnAt_K (Bg.keeps F.keep) (by kernel_rfl)) ?_ (by with_unfolding_all rfl) (by with_unfolding_all rfl)
  walk_at "goes"
  refine ⟨fnAt_K (Bg.keeps F.keep) (by kernel_rfl), ?_⟩
  refine hashes_spec (fun b o e => F.keep _ _ (Kg _ _ (hH _ _ e))) hS (Bg.keeps F.keep) (Ig.keeps F.keep) hvH hvD (by show A.depth + 1 < 840; omega) hhd ?_
  intro l h2 tk2 ys K2 hl hl2 hy
  have k2 : ∀ b o, g.get? b = some o → h2.get? b = some o := fun b o e => K2.all _ _ (F.keep _ _ e)
  walk_at "goes"
  refine ⟨fnAt_K (Bg.keeps k2) (by kernel_rfl), ?_⟩
  refine check_alt_spec (Bg.keeps k2) (Ig.keeps k2) hW hB hQ (isList_keeps hbg k2) hbi (lst_list hl2) hy hc hWs hD0 hDs (by show A.depth + 1 < 800; omega) hhd ?_
  intro h3 tk3 t K3
  exact h _ _ _ fun b o e _ => K3.all _ _ (k2 _ _ (Kg _ _ e))
end
end

-- H4
section
section
variable {w : World} {A : Around} {E : Value → Shared → Prop} {s : Shared} {x dx : Addr} {r : HV} {Q : Value → Shared → Prop}
theorem gt_F {prog : Program} {a b : Int} {t u : Tok} (hn : ¬ b < a) (h : Q (.bool false) s) : wpAny (model prog w) A (compareOp .Gt (.int a t) (.int b u)) Q E s := gt_int (by rw [decide_eq_false hn]; exact h)
theorem lt_F {prog : Program} {a b : Int} {t u : Tok} (hn : ¬ a < b) (h : Q (.bool false) s) : wpAny (model prog w) A (compareOp .Lt (.int a t) (.int b u)) Q E s := lt_int (by rw [decide_eq_false hn]; exact h)
set_option maxHeartbeats 4000000 in
theorem add_alt_code {R : Result → Shared → Prop} {W D : Nat} {tW tn te : Tok} {cs : Nat → Nat} {cell : Nat → Nat → Int} {n ea : Int} {hl bl : Addr} {hys bys : List Value} {g₀ : Heap} (B : Bs w g₀) (hg : ∀ b o, g₀.get? b = some o → s.heap.get? b = some o) (hdx : g₀.get? dx = none) (hblg : g₀.get? bl = none) (hdb : dx ≠ bl) (hlb : hl ≠ bl) (hld : hl ≠ dx)
    (hxd : x ≠ dx) (hxb : x ≠ bl)
    (I : HIn w s.heap x dx r) (hW : r.vW = .int (W : Int) tW) (hB : r.vB = .ref bl) (hQ : r.vQ = .ref 221) (hE : r.vE = .int ea te)
    (hb : s.heap.IsList bl bys.toArray) (hbi : IntsAre bys (binsOf W D cell)) (hh : s.heap.IsList hl hys.toArray) (hhi : IntsAre hys (colsHash W D cs)) (hc : ∀ i < D, cs i < W) (hWs : W ≤ 8) (hD0 : 0 < D) (hDs : D ≤ 8) (hroom : A.depth < 800) (hhd : A.handled = none)
    (hbd : ∀ i < D, -2147483648 ≤ cell i (cs i) + n ∧ cell i (cs i) + n ≤ 2147483647) (hea : ea + n ≤ 9223372036854775807)
    (h : ∀ h' tk' t te' bys', Kp [dx, bl] s.heap h' → h'.get? dx = some (hvObj w { r with vE := .int (ea + n) te' }) → h'.IsList bl bys'.toArray → IntsAre bys' (binsOf W D (bump cell cs n)) →
      R (.ok (.ret (.int (lmin (picks D (bump cell cs n) cs)) t))) { s with heap := h', toks := tk' }) :
    codeAny (model PG w) A (.call (.ref 179) ⟨[.ref x, .ref hl, .int n tn], []⟩) R s := by
  have hlen : hys.length = D := by rw [hhi.length]; simp [colsHash]
  obtain ⟨ob, hob, hobc, kb, hobd⟩ := id hb
  refine call_cells [(dx, hvObj w r), (bl, ob)] (fun p hp => ?_) (B.keeps hg) (by rfl) (by rfl) (by show A.depth < 1000; omega) (binds := [("self", .ref x), ("hashes", .ref hl), ("num_els", .int n tn)]) (binds_K (B.keeps hg).X (by rfl) (by rfl) (by rfl) (by rfl) (by rfl)) (by rfl) (by decide) ?_
  · rcases List.mem_cons.mp hp with rfl | hp
    · exact I.dict
    · rw [List.mem_singleton.mp hp]; exact hob
  intro g L h₁ tk cells F N Y K hWL hL
  obtain ⟨on, oc, rfl, hon, hoc⟩ := (show CellsAre _ [(Str.ofString "num_els", L + 1 + 1), (Str.ofString "self", L + 1)] cells from Y).two
  replace hoc : oc.data = .cell (some (.ref x)) := hoc
  replace hon : on.data = .cell (some (.int n tn)) := hon
  have Kg : ∀ b o, s.heap.get? b = some o → b ≠ dx → b ≠ bl → g.get? b = some o := fun b o e n1 n2 => K _ _ e (by simp [n1, n2])
  have Bg : Bs w g := B.keeps fun b o e => Kg _ _ (hg _ _ e) (fun q => by rw [q, hdx] at e; cases e) (fun q => by rw [q, hblg] at e; cases e)
  have Ix : g.get? x = some (instObj 321 dx) := Kg _ _ I.at_ hxd hxb
  have hhg : g.IsList hl hys.toArray := by obtain ⟨o, e, q⟩ := hh; exact ⟨o, Kg _ _ e hld hlb, q⟩
  have hdL : dx < L := hWL _ (.head _)
  have hbL : bl < L := hWL _ (.tail _ (.head _))
  replace N : News g L h₁ [(L + 1 + 1, on), (L + 1, oc), (dx, hvObj w r), (bl, ob)] := N
  have I₁ : HIn w h₁ x dx r := ⟨F.keep _ _ Ix, (N _ (.tail _ (.tail _ (.head _)))).1⟩
  walk_at "go"
  refine my_Assign_ListComp (by with_unfolding_all rfl) (by rfl) (by decide) (by rfl) (by decide) (by rfl) (by rfl) ?_
  walk_at "go"
  refine b_enumerate F Bg ?_ rfl rfl
  walk_at "goes"
  refine csrc_enum (fun i y => ∃ t, y = .int ((cs i + W * i : Nat) : Int) t) hhd (isList_keeps hhg F.keep) (by rw [sizeLine_eq]; omega) (by rfl) (by rfl) (by rfl) (by decide) ?_ ?_
  · intro i v t C m₃ h tk E' hv hn hma hmb up
    have hi : i < D := by have := (List.getElem?_eq_some_iff.mp hv).1; omega
    obtain ⟨tv, rfl⟩ := ints_at hhi hv (colsHash_get hi)
    have hcell : h.IsCell (L + 1) (some (.ref x)) := ⟨oc, up _ _ (N _ (.tail _ (.head _))).1, hoc⟩
    have kg : ∀ b o, g.get? b = some o → h.get? b = some o := fun b o e => up _ _ (F.keep _ _ e)
    walk_at "goes"
    refine p_width (Bg.keeps kg) (I₁.keeps up) (by show A.depth + 1 < 890; omega) hW ?_
    intro h2 tk2 K2
    have k2 := K2.all
    have hn2 : h2.Ns C m₃ := hn.at' fun o e => k2 _ o e
    have hcell2 : h2.IsCell (L + 1) (some (.ref x)) := hcell.keeps k2
    have kg2 : ∀ b o, g.get? b = some o → h2.get? b = some o := fun b o e => k2 _ _ (kg _ _ e)
    refine mod_int' (by have := hc i hi; omega) ?_
    walk_at "goes"
    refine p_width (Bg.keeps kg2) ((I₁.keeps up).keeps k2) (by show A.depth + 1 < 890; omega) hW ?_
    intro h3 tk3 K3
    have k3 := K3.all
    refine mul_int ?_ (mul_ok hWs)
    walk_at "goes"
    rw [hash_idx (hc i hi)]
    exact ⟨⟨_, rfl⟩, h3, _, rfl, fun b o e => k3 _ _ (k2 _ _ e)⟩
  intro h₂ up₂
  refine finL_plain _ F N up₂ (fun b hb => ?_) ?_
  · rcases List.mem_cons.mp hb with rfl | hb
    · exact get?_none_ge (Nat.le_succ _)
    · rw [List.mem_singleton.mp hb]; exact get?_none_ge (Nat.le_refl _)
  intro D1 h4 tk4 ys F4 N4 hyl hyv hD1
  have hyi : IntsAre ys (colsHash W D cs) := ints_of (by rw [hyl, hlen]) hyv
  have I4 : HIn w h4 x dx r := ⟨F4.keep _ _ Ix, (N4 _ (.tail _ (.tail _ (.tail _ (.head _))))).1⟩
  walk_at "go"
  refine my_Assign_ListComp (by with_unfolding_all rfl) (by rfl) (by decide) (by rfl) (by decide) (by rfl) (by rfl) ?_
  walk_at "goes"
  refine csrc_list (fun i y => ∃ t, y = .int (cell i (cs i) + n) t) hhd (lst_list (N4 _ (.head _)).1) (by rw [sizeLine_eq]; omega) (by rfl) (by rfl) ?_ ?_
  · intro i v C m₃ h5 tk5 E' hv hn hm up
    have hi : i < D := by have := (List.getElem?_eq_some_iff.mp hv).1; omega
    obtain ⟨tv, rfl⟩ := ints_at hyi hv (colsHash_get hi)
    have hcell : h5.IsCell (L + 1) (some (.ref x)) := ⟨oc, up _ _ (N4 _ (.tail _ (.tail _ (.head _)))).1, hoc⟩
    have hcelln : h5.IsCell (L + 1 + 1) (some (.int n tn)) := ⟨on, up _ _ (N4 _ (.tail _ (.head _))).1, hon⟩
    have kg : ∀ b o, g.get? b = some o → h5.get? b = some o := fun b o e => up _ _ (F4.keep _ _ e)
    walk_at "goes"
    refine f_B (Bg.keeps kg) (I4.keeps up) hB ?_
    walk_at "goes"
    obtain ⟨t, hx⟩ := hbi.get _ _ (binsOf_get (cell := cell) hi (hc i hi))
    refine sub_list ⟨ob, up _ _ (N4 _ (.tail _ (.tail _ (.tail _ (.tail _ (.head _)))))).1, hobc, _, hobd⟩ (by omega) (by have := idx_lt hi (hc i hi); have : W * D ≤ 8 * 8 := Nat.mul_le_mul hWs hDs; omega) (by rw [Int.toNat_natCast]; exact hx) ?_ (by with_unfolding_all rfl)
    walk_at "goes"
    exact ⟨⟨_, rfl⟩, h5, _, rfl, fun b o e => e⟩
  intro h5 up5
  refine finL_plain _ F4 N4 up5 (fun b hb => by rw [List.mem_singleton.mp hb]; exact get?_none_ge (Nat.le_refl _)) ?_
  intro D2 h6 tk6 vs F6 N6 hvl hvv hD2
  have hvi : IntsAre vs (picks D (bump cell cs n) cs) := by rw [← picks_bump]; exact ints_of (by rw [hvl, hyl, hlen]) hvv
  walk_at "go"
  refine For_turns F6 ?_
  walk_at "go"
  refine b_enumerate F6 Bg ?_ rfl rfl
  walk_at "goes"
  have hdD1 : ∀ p ∈ [(L + 1 + 1, on), (L + 1, oc), (dx, hvObj w r), (bl, ob)], p.1 ≠ D1 := hD1
  have hdD2 : ∀ p ∈ [(D1, LCg.lst ys), (L + 1 + 1, on), (L + 1, oc), (dx, hvObj w r), (bl, ob)], p.1 ≠ D2 := hD2
  refine for_enum hhd (.head _) rfl (by rfl) F6 N6 (by rfl) (by rfl) (by rfl)
    (fun i m news => ∃ ob' bys' k', news = [(D2, LCg.lst vs), (D1, LCg.lst ys), (L + 1 + 1, on), (L + 1, oc), (dx, hvObj w r), (bl, ob')] ∧ ob'.cls = .type "list" ∧ ob'.data = .seq bys'.toArray k' ∧ IntsAre bys' (binsOf W D (bumpTo i cell cs n)) ∧
      m (Str.ofString "bins") = some (.ref D1) ∧ m (Str.ofString "vals") = some (.ref D2)) ?_ ?_ ?_ ?_
  · exact ⟨ob, bys, kb, rfl, hobc, hobd, by rw [bumpTo_zero]; exact hbi, by rfl, by rfl⟩
  · rintro i m₁ news₁ ⟨ob', bys', k', rfl, _⟩; exact .head _
  · rintro i v t m₁ news₁ h tk e oe it oi hv ⟨ob', bys', k', rfl, hobc', hobd', hbi', hmb, hmv⟩ hne ge git F7 N7
    have hi : i < D := by have := (List.getElem?_eq_some_iff.mp hv).1; omega
    obtain ⟨tv, rfl⟩ := ints_at hvi hv (picks_get hi)
    obtain ⟨tb, hyx⟩ := hyi.get _ _ (colsHash_get (cs := cs) hi)
    walk_at "goes"
    refine sub_list (lst_list (N7 _ (.tail _ (.tail _ (.tail _ (.head _))))).1) (by omega) (by omega) (by rw [Int.toNat_natCast]; exact hyx) ?_ (by with_unfolding_all rfl)
    refine storeX_L F7 N7 ?_ (by rfl) (by rfl)
    intro h8 F8 N8
    walk_at "goes"
    refine t_INT32_T_MAX F8 Bg ?_ rfl rfl
    have hbi1 := hbd i hi
    have hbq : bump cell cs n i (cs i) = cell i (cs i) + n := by simp [bump]
    refine gt_F (by rw [hbq]; omega) ?_
    walk_at "goes"
    refine t_INT32_T_MIN F8 Bg ?_ rfl rfl
    refine lt_F (by rw [hbq]; omega) ?_
    walk_at "goes"
    refine wpAny_Assign_Subscript ?_ (by with_unfolding_all rfl)
    walk_at "goes"
    have mdx : (dx, hvObj w r) ∈ (e, oe) :: (it, oi) :: [(D2, LCg.lst vs), (D1, LCg.lst ys), (L + 1 + 1, on), (L + 1, oc), (dx, hvObj w r), (bl, ob')] := .tail _ (.tail _ (.tail _ (.tail _ (.tail _ (.tail _ (.head _))))))
    have mbl : (bl, ob') ∈ (e, oe) :: (it, oi) :: [(D2, LCg.lst vs), (D1, LCg.lst ys), (L + 1 + 1, on), (L + 1, oc), (dx, hvObj w r), (bl, ob')] := .tail _ (.tail _ (.tail _ (.tail _ (.tail _ (.tail _ (.tail _ (.head _)))))))
    refine f_B (Bg.keeps F8.keep) ⟨F8.keep _ _ Ix, (N8 _ mdx).1⟩ hB ?_
    walk_at "goes"
    have hlb' : bys'.length = W * D := by rw [hbi'.length]; simp [binsOf]
    have hix := idx_lt hi (hc i hi)
    have hWD : W * D ≤ 8 * 8 := Nat.mul_le_mul hWs hDs
    refine wpAny_setItem_list ⟨ob', (N8 _ mbl).1, hobc', k', hobd'⟩ (by omega) (by omega) (by rw [List.size_toArray, hlb']; omega) fun h9 hL9 hs9 => ?_
    obtain ⟨ob9, hob9, hob9c, k9, hob9d⟩ := hL9
    have ne_bl : ∀ p ∈ [(e, oe), (it, oi), (D2, LCg.lst vs), (D1, LCg.lst ys), (L + 1 + 1, on), (L + 1, oc), (dx, hvObj w r)], p.1 ≠ bl := by
      simp only [List.forall_mem_cons]
      have q := hne (bl, ob') (.tail _ (.tail _ (.tail _ (.tail _ (.tail _ (.head _))))))
      exact ⟨Ne.symm q.1, Ne.symm q.2, Ne.symm (hD2 (bl, ob) (.tail _ (.tail _ (.tail _ (.tail _ (.head _)))))), Ne.symm (hD1 (bl, ob) (.tail _ (.tail _ (.tail _ (.head _))))), Nat.ne_of_gt (Nat.lt_succ_of_lt (Nat.lt_succ_of_lt hbL)), Nat.ne_of_gt (Nat.lt_succ_of_lt hbL), hdb, fun _ h => nomatch h⟩
    have F9 := F8.change hs9 (N8 _ mbl).2.1 (N8 _ mbl).2.2
    have N9 := News.setAt (own := [(e, oe), (it, oi), (D2, LCg.lst vs), (D1, LCg.lst ys), (L + 1 + 1, on), (L + 1, oc), (dx, hvObj w r)]) (rest := []) N8 ne_bl (fun _ h => nomatch h) hs9 hob9
    walk_at "goes"
    refine endO_next rfl F9 N9 (fun p hp q => ?_) ?_
    · have q' : p.1 = e ∨ p.1 = it := by simpa using q
      have hp' : p ∈ [(D2, LCg.lst vs), (D1, LCg.lst ys), (L + 1 + 1, on), (L + 1, oc), (dx, hvObj w r)] ∨ p = (bl, ob9) := by
        simp only [List.mem_cons] at hp ⊢
        simpa [or_assoc] using hp
      rcases hp' with hp' | hp'
      · have z := hne p (by simp only [List.mem_cons] at hp' ⊢; rcases hp' with h | h | h | h | h | h <;> simp_all)
        rcases q' with q' | q'
        · exact z.1 q'
        · exact z.2 q'
      · have z := hne (bl, ob') (by simp)
        rw [hp'] at q'
        rcases q' with q' | q'
        · exact z.1 q'
        · exact z.2 q'
    · refine ⟨ob9, bys'.set (cs i + W * i) (.int (bump cell cs n i (cs i)) tv), k9, rfl, hob9c, by rw [hob9d, Int.toNat_natCast, List.setIfInBounds_toArray], ?_, hmb, hmv⟩
      rw [hbq, ← bumpTo_set hi (hc i hi)]
      exact ints_set hbi' _ _ _
  rintro h7 tk7 m7 news7 F7 N7 ⟨ob', bys', k', rfl, hobc', hobd', hbi', hmb, hmv⟩
  have hvD : vs.length = D := by rw [hvl, hyl, hlen]
  rw [hvD, bumpTo_all] at hbi'
  have mdx : (dx, hvObj w r) ∈ [(D2, LCg.lst vs), (D1, LCg.lst ys), (L + 1 + 1, on), (L + 1, oc), (dx, hvObj w r), (bl, ob')] := .tail _ (.tail _ (.tail _ (.tail _ (.head _))))
  walk_at "go"
  refine wpAny_AugAssign_AttributeAny ?_
  walk_at "goes"
  refine f_E (Bg.keeps F7.keep) ⟨F7.keep _ _ Ix, (N7 _ mdx).1⟩ hE ?_
  walk_at "goes"
  have nedx : ∀ p ∈ [(D2, LCg.lst vs), (D1, LCg.lst ys), (L + 1 + 1, on), (L + 1, oc)], p.1 ≠ dx := by
    simp only [List.forall_mem_cons]
    exact ⟨Ne.symm (hD2 (dx, hvObj w r) (.tail _ (.tail _ (.tail _ (.head _))))), Ne.symm (hD1 (dx, hvObj w r) (.tail _ (.tail _ (.head _)))), Nat.ne_of_gt (Nat.lt_succ_of_lt (Nat.lt_succ_of_lt hdL)), Nat.ne_of_gt (Nat.lt_succ_of_lt hdL), fun _ h => nomatch h⟩
  refine s_E F7 Bg N7 ⟨F7.keep _ _ Ix, (N7 _ mdx).1⟩ (.tail (nedx _ (.head _)) (.tail (nedx _ (.tail _ (.head _))) (.tail (nedx _ (.tail _ (.tail _ (.head _)))) (.tail (nedx _ (.tail _ (.tail _ (.tail _ (.head _))))) (.head fun p hp => by rw [List.mem_singleton.mp hp]; exact Ne.symm hdb))))) ?_
  intro h8 F8 N8
  have mdx8 := N8 _ (.tail _ (.tail _ (.tail _ (.tail _ (.head _)))))
  walk_at "goes"
  refine p_elements_added (Bg.keeps F8.keep) ⟨F8.keep _ _ Ix, mdx8.1⟩ (by show A.depth + 1 < 890; omega) rfl ?_
  intro h9 tk9 K9
  have F9 := F8.keeps K9.all
  have N9 := N8.grown K9.all
  refine t_INT64_T_MAX F9 Bg ?_ rfl rfl
  refine gt_F (by omega) ?_
  walk_at "goes"
  refine o_Q (Bg.keeps F9.keep) ⟨F9.keep _ _ Ix, (N9 _ (.tail _ (.tail _ (.tail _ (.tail _ (.head _)))))).1⟩ hQ ?_
  refine callWith_F (fnAt_K (Bg.keeps F9.keep) (by kernel_rfl)) ?_ (by with_unfolding_all rfl) (by with_unfolding_all rfl)
  walk_at "goes"
  refine b_sorted F9 Bg ?_ rfl rfl
  walk_at "goes"
  refine sorted_N F9 N9 (lst_list (N9 _ (.head _)).1) hvi (by omega) ?_
  intro h10 zs' ns' e F10 N10 hi10 hp hs
  have hne : picks D (bump cell cs n) cs ≠ [] := by
    intro q
    have := congrArg List.length q
    simp [picks] at this; omega
  obtain ⟨rest, rfl⟩ := head_sorted hp hs hne
  cases hi10 with
  | cons n0 t hr =>
    walk_at "goes"
    refine ⟨fnAt_K (Bg.keeps F10.keep) (by kernel_rfl), ?_⟩
    refine minq_spec (Bg.keeps F10.keep) ⟨_, (N10 _ (.head _)).1, rfl, _, rfl⟩ (by show A.depth + 1 < 850; omega) ?_
    intro h11 tk11 t11 K11
    have e1 := K11.all _ _ (N10 _ (.tail _ (.tail _ (.tail _ (.tail _ (.tail _ (.head _))))))).1
    have e2 := K11.all _ _ (N10 _ (.tail _ (.tail _ (.tail _ (.tail _ (.tail _ (.tail _ (.head _)))))))).1
    exact h _ _ _ _ bys' (fun b o e' nb => K11.all _ _ (F10.keep _ _ (Kg _ _ e' (fun q => nb (q ▸ .head _)) (fun q => nb (q ▸ .tail _ (.head _)))))) e1 ⟨ob', e2, hobc', k', hobd'⟩ hbi'
end
end

-- J1
section
section
variable {w : World} {A : Around} {E : Value → Shared → Prop} {s : Shared} {x dx : Addr} {r : HV} {Q : Value → Shared → Prop}
/-- super().name of the heavy hitters' own methods -/
theorem super_K {h₀ : Heap} {L : Addr} {m : Str → Option Value} {news : List (Addr × Obj)} {body : List Stmt} {q : Str} {scope : Scope} {p0 p1 apos pos : Pos} {attr : Str} {fd : FuncData} {ar : Arg} {vs : Array Value} {file : Str} {tf : Tok} {oc ccl : Value} {od cdd : Option Addr} {osl ccs : Array (Option Value)} {f f2 cda : Addr} {args : List Expr} {pl : Sem Bool} {Q : Value → Shared → Prop}
    (F : Fr h₀ L s.heap m) (B : Bs w h₀) (N : News h₀ L s.heap news) (hx : h₀.get? x = some (instObj 321 dx)) {es : List DictEntry} {en₀ : Nat} (hdx : (dx, dictOf es en₀) ∈ news)
    (hf : (KK w).lookup f = some ⟨oc, od, .func fd, osl⟩) (hp : (fd.params.posonlyargs ++ fd.params.args).head? = some ar) (hv : m ar.arg = some (.ref x))
    (hcode : (KK w).lookup cda = some ⟨ccl, cdd, .fields vs, ccs⟩) (hvs : vs[2]? = some (.str file tf)) (hfile : ((PG.main.file : Str) == file) = true)
    (hat : (attr == ("__class__" : Str)) = false) (hks : scope.names.lookup ("super" : Str) = some .globalImplicit) (hkc : scope.names.lookup ("__class__" : Str) = some .free) (hka : scope.names.lookup ar.arg = some .local) (hk : scope.kind = .function)
    (hm : ks_superIn (KK w) 321 321 attr = some (some (.ref f2))) (ht : typeIn (KK w) (.ref f2) = some (.type "function"))
    (h : ∀ so qa h', Fr h₀ L h' m → News h₀ L h' ((qa, methodObj (.ref f2) (.ref x)) :: (so, ks_superObj 321 x 321) :: news) →
      wpAny (model PG w) A (callWith pos (.ref qa) [] (backTo pos (starEach args (ksEnv q scope L f (.ref cda) 249))) []) Q E { s with heap := h', toks := s.toks + 1 })
    (he : eval (.Call (.Attribute (.Call (.Name "super" p0) [] [] p1) attr apos) args [] pos) (ksEnv q scope L f (.ref cda) 249) = (do
      let ov ← attributeBase (.Call (.Name "super" p0) [] [] p1) attr (ksEnv q scope L f (.ref cda) 249) (eval (.Call (.Name "super" p0) [] [] p1) (ksEnv q scope L f (.ref cda) 249))
      standAt apos.atName
      let (fv, first) ← holding [ov] (getMethod ov attr pl)
      callWith pos fv first (backTo pos (starEach args (ksEnv q scope L f (.ref cda) 249))) []) := by rfl) :
    _root_.PySem.wpAt (model PG w) A (.func body (ksEnv q scope L f (.ref cda) 249)) (eval (.Call (.Attribute (.Call (.Name "super" p0) [] [] p1) attr apos) args [] pos) (ksEnv q scope L f (.ref cda) 249)) Q E s := by
  refine ks_wpAt_MethodCall (pl := pl) ?_ he
  have I : W.InstAt s.heap x (instObj 321 dx) 321 (some (dictOf es en₀)) := ⟨F.keep _ _ hx, rfl, rfl, (N _ hdx).1⟩
  obtain ⟨X, p, loose, mean, mg, mb, T⟩ := B
  refine ks_node F X N T hf hp hv I hcode hvs hfile (D := 321) (by rfl) (by rfl) (by kernel_rfl) (by kernel_rfl) hat hks hkc hka hk (by decide +kernel) (by first | boot_by_name | rfl | kernel_rfl) ?_
  intro so h' F' N' _
  have I' : W.InstAt h' x (instObj 321 dx) 321 (some (dictOf es en₀)) := ⟨F'.keep _ _ hx, rfl, rfl, (N' _ (.tail _ hdx)).1⟩
  refine ks_method F' X N' (.head _) I' (by kernel_rfl) hm ht hat ?_
  intro qa h'' F'' N'' _
  exact h so qa h'' F'' N''
theorem fr_kp {h₀ h h' : Heap} {L : Addr} {m : Str → Option Value} {W : List Addr} (F : Fr h₀ L h m) (K : Kp W h h') (hW : ∀ a ∈ W, L ≠ a ∧ h₀.get? a = none) : Fr h₀ L h' m := by
  obtain ⟨oL, es, ep, hL, rest⟩ := F.ns
  refine ⟨⟨oL, es, ep, K _ _ hL (fun q => (hW _ q).1 rfl), rest⟩, fun b o e => K _ _ (F.keep b o e) (fun q => ?_), F.above⟩
  rw [(hW _ q).2] at e; cases e
theorem news_kp {h₀ h h' : Heap} {L : Addr} {W : List Addr} {news news' : List (Addr × Obj)} (N : News h₀ L h news) (K : Kp W h h') (hn : ∀ p ∈ news', (p ∈ news ∧ p.1 ∉ W) ∨ (h'.get? p.1 = some p.2 ∧ ∃ o, (p.1, o) ∈ news)) : News h₀ L h' news' := by
  intro p hp
  rcases hn p hp with ⟨q, n⟩ | ⟨e, o, q⟩
  · exact ⟨K _ _ (N p q).1 n, (N p q).2⟩
  · exact ⟨e, (N _ q).2⟩
theorem gt_T {prog : Program} {a b : Int} {t u : Tok} (hn : b < a) (h : Q (.bool true) s) : wpAny (model prog w) A (compareOp .Gt (.int a t) (.int b u)) Q E s := gt_int (by rw [decide_eq_true hn]; exact h)
theorem lt_T {prog : Program} {a b : Int} {t u : Tok} (hn : a < b) (h : Q (.bool true) s) : wpAny (model prog w) A (compareOp .Lt (.int a t) (.int b u)) Q E s := lt_int (by rw [decide_eq_true hn]; exact h)
theorem set_book {h₀ : Heap} {L : Addr} {m : Str → Option Value} {own rest : List (Addr × Obj)} {td : Addr} {od : Obj} {kvs : List (Str × Value)} {k : Str} {t : Tok} {v : Value} {Q : Unit → Shared → Prop} (F : Fr h₀ L s.heap m) (N : News h₀ L s.heap (own ++ (td, od) :: rest)) (hd : od.IsDictOf (strKind PG w) kvs)
    (h1 : ∀ p ∈ own, p.1 ≠ td) (h2 : ∀ p ∈ rest, p.1 ≠ td) (hl : kvs.length ≤ 16)
    (h : ∀ h' od', Fr h₀ L h' m → News h₀ L h' (own ++ (td, od') :: rest) → od'.IsDictOf (strKind PG w) (stored kvs k v) → Q () { s with heap := h', toks := s.toks + 1 }) : wpAny (model PG w) A (setItem (.ref td) (.str k t) v) Q E s := by
  have nd := N (td, od) (List.mem_append_right _ (.head _))
  refine wpAny_setItem_pairs (strKind_is PG w k t) (Heap.dictOf_iff.mpr ⟨od, nd.1, hd⟩) (fun h' hd' hs => ?_) (by rw [sizeLine_eq]; omega)
  obtain ⟨od', ho', hd''⟩ := Heap.dictOf_iff.mp hd'
  exact h h' od' (F.change hs nd.2.1 nd.2.2) (News.setAt N h1 h2 hs ho') hd''
theorem pop_book {h₀ : Heap} {L : Addr} {m : Str → Option Value} {own rest : List (Addr × Obj)} {td : Addr} {od : Obj} {kvs : List (Str × Value)} {k : Str} {t : Tok} {v : Value} {Q : Value → Shared → Prop} (F : Fr h₀ L s.heap m) (N : News h₀ L s.heap (own ++ (td, od) :: rest)) (hd : od.IsDictOf (strKind PG w) kvs) (hv : valueAt kvs k = some v)
    (h1 : ∀ p ∈ own, p.1 ≠ td) (h2 : ∀ p ∈ rest, p.1 ≠ td) (hl : kvs.length ≤ 16)
    (h : ∀ h' od', Fr h₀ L h' m → News h₀ L h' (own ++ (td, od') :: rest) → od'.IsDictOf (strKind PG w) (without kvs k) → Q v { s with heap := h', toks := s.toks + 1 }) : wpAny (model PG w) A (call (.builtin "dict.pop") [.ref td, .str k t, .none]) Q E s := by
  have nd := N (td, od) (List.mem_append_right _ (.head _))
  have hD : s.heap.DictOf (strKind PG w) td kvs := Heap.dictOf_iff.mpr ⟨od, nd.1, hd⟩
  refine call_meetsIn PySem.F.slot_dict_pop hD.typeIs PySem.F.entry_dict_pop (PySem.F.args_dict_pop_3 _ _ _) (meets_dict_pop_there (knd := strKind PG w) (k := k) (d := td) (strKind_is PG w k t) [.none] (.inr ⟨_, rfl⟩) (by rfl)) ⟨kvs, v, hD, by rw [sizeLine_eq]; omega, hv, fun h' hd' hs => ?_⟩
  obtain ⟨od', ho', hd''⟩ := Heap.dictOf_iff.mp hd'
  exact h h' od' (F.change hs nd.2.1 nd.2.2) (News.setAt N h1 h2 hs ho') hd''
theorem dict_get_at {td : Addr} {od : Obj} {kvs : List (Str × Value)} {h₀ : Heap} {L : Addr} {news : List (Addr × Obj)} {Q : Value → Shared → Prop} (N : News h₀ L s.heap news) (hm : (td, od) ∈ news) (hd : od.IsDictOf (strKind PG w) kvs) (h : Q (.ref s.heap.objs.size) { s with heap := s.heap.push (boundGet td), toks := s.toks + 1 }) :
    wpAny (model PG w) A (getAttr (.ref td) (Str.ofString "get") true) Q E s := by
  have e := (N _ hm).1
  obtain ⟨c, dc, dt, sl⟩ := od
  obtain ⟨es, ep, ⟨a, b, c⟩, hdt, _⟩ := hd
  simp only at a b c hdt
  subst a b c hdt
  exact dict_get_attr e h
theorem getD_of {vs : List Int} {i : Nat} {n : Int} (e : vs[i]? = some n) : vs.getD i 0 = n := by simp [List.getD, e]
theorem min_top {g : Heap} {L f cc td : Addr} {m : Str → Option Value} {news : List (Addr × Obj)} {qn : Str} {scope : Scope} {cd : Value} {kvs : List (Str × Value)} {b : List (Str × Int)} {od : Obj} {p0 p1 p2 p3 p4 p5 p6 p7 : Pos} {Q : Value → Shared → Prop}
    (F : Fr g L s.heap m) (Bg : Bs w g) (N : News g L s.heap news) (hmtd : (td, od) ∈ news) (hmdx : (dx, hvObj w r) ∈ news) (Ix : g.get? x = some (instObj 321 dx)) (hT : r.vT = .ref td) (hself : m (Str.ofString "self") = some (.ref x)) (hod : od.IsDictOf (strKind PG w) kvs) (hp : PairsAre kvs b) (hne : b ≠ [])
    (lo : (td == sysModules) = false) (hhd : A.handled = none)
    (hk : scope.kind = .function) (hs : (ksEnv qn scope L f cd cc).kindOf (Str.ofString "self") = some .local) (hmin : (ksEnv qn scope L f cd cc).kindOf (Str.ofString "min") = some .globalImplicit)
    (h : ∀ i k n t h' tk', kvs[i]? = some (k, .int n t) → b[i]? = some (k, n) → i = leastIdx (b.map (·.2)) → n = lmin (b.map (·.2)) → Fr g L h' m → News g L h' news → ∀ u, Q (.str k u) { s with heap := h', toks := tk' }) :
    wpAny (model PG w) A (eval (.Call (.Name (Str.ofString "min") p0) [.Attribute (.Name (Str.ofString "self") p1) (Str.ofString "_HeavyHitters__top_x") p2] [⟨some (Str.ofString "key"), .Attribute (.Attribute (.Name (Str.ofString "self") p3) (Str.ofString "_HeavyHitters__top_x") p4) (Str.ofString "get") p5, p6⟩] p7) (ksEnv qn scope L f cd cc)) Q E s := by
  refine wpAny_Call_Name_kw ?_
  refine b_min F Bg ?_ hk hmin
  refine callWith_kw ?_ (by with_unfolding_all rfl) (by with_unfolding_all rfl) (by with_unfolding_all rfl) (by with_unfolding_all rfl)
  walk_at "goes"
  refine nameX_L F hself ?_ hk hs (by decide)
  refine f_T (Bg.keeps F.keep) ⟨F.keep _ _ Ix, (N _ hmdx).1⟩ hT ?_
  walk_at "goes"
  refine kws_cons ?_
  refine Attribute_any_ ?_ (by with_unfolding_all rfl)
  walk_at "goes"
  refine nameX_L F hself ?_ hk hs (by decide)
  refine f_T (Bg.keeps F.keep) ⟨F.keep _ _ Ix, (N _ hmdx).1⟩ hT ?_
  refine dict_get_at N hmtd hod ?_
  refine kws_nil ?_
  have up : ∀ b o, s.heap.get? b = some o → (s.heap.push (boundGet td)).get? b = some o := fun b o e => Heap.get?_push_of_some _ e
  have F1 := F.keeps up
  have N1 := N.grown up
  have hpos : 0 < b.length := List.length_pos_iff.mpr hne
  show wpAny _ _ (call (.builtin "min") [.ref td] [(Str.ofString "key", .ref s.heap.objs.size)]) _ _ _
  refine min_get (fun i => (b.map (·.2)).getD i 0) hhd lo (Heap.get?_push_size _ rfl) (Heap.dictOf_iff.mpr ⟨od, (N1 _ hmtd).1, hod⟩) (by rw [hp.length]; exact hpos) (fun i k v e => ?_) ?_
  · obtain ⟨n, t, hb, rfl⟩ := hp.get e
    exact ⟨t, by rw [getD_of (n := n) (by rw [List.getElem?_map, hb]; rfl)]⟩
  · intro i k v u h' tk' e hbest K
    obtain ⟨n, t, hb, rfl⟩ := hp.get e
    have hbn : (b.map (·.2))[i]? = some n := by rw [List.getElem?_map, hb]; rfl
    have key : ∀ (j : Nat) (m : Int), (b.map (·.2))[j]? = some m → n ≤ m ∧ (j < i → n < m) := fun j m hj => by
      have hjl : j < kvs.length := by have := (List.getElem?_eq_some_iff.mp hj).1; rw [List.length_map] at this; rw [hp.length]; exact this
      have := hbest j hjl
      rw [getD_of hbn, getD_of hj] at this
      exact this
    refine h i k n t h' tk' e hb (leastIdx_eq hbn key) (lmin_eq (List.mem_of_getElem? hbn) fun x hx => ?_) (F1.keeps K.all) (N1.grown K.all) u
    obtain ⟨j, hj⟩ := List.getElem?_of_mem hx
    exact (key j x hj).1
theorem cut_state {α : Type} {M : Model} {t : Sem α} {Q : α → Shared → Prop} {h : Heap} {tk₀ : Nat} (H : ∀ tk, wpAny M A t Q E { s with heap := h, toks := tk }) : wpAny M A t Q E { s with heap := h, toks := tk₀ } := H _
end
end

-- J2
section
section
variable {w : World} {A : Around} {E : Value → Shared → Prop} {s : Shared} {x dx : Addr} {r : HV} {Q : Value → Shared → Prop}
set_option maxHeartbeats 4000000 in
theorem hh_add_alt {W D P : Nat} {tW tn te tS tN tM tkey : Tok} {cs : Nat → Nat} {cell : Nat → Nat → Int} {n ea mk : Int} {key : Str} {b : List (Str × Int)} {hl bl td : Addr} {hys bys : List Value} {kvs : List (Str × Value)} {g₀ : Heap} (B : Bs w g₀) (hg : ∀ b o, g₀.get? b = some o → s.heap.get? b = some o)
    (hdx : g₀.get? dx = none) (hblg : g₀.get? bl = none) (htdg : g₀.get? td = none) (hdb : dx ≠ bl) (hdt : dx ≠ td) (hbt : bl ≠ td) (hlb : hl ≠ bl) (hld : hl ≠ dx) (hlt : hl ≠ td) (hxd : x ≠ dx) (hxb : x ≠ bl) (hxt : x ≠ td) (lo : (td == sysModules) = false)
    (I : HIn w s.heap x dx r) (hW : r.vW = .int (W : Int) tW) (hB : r.vB = .ref bl) (hQ : r.vQ = .ref 221) (hE : r.vE = .int ea te) (hT : r.vT = .ref td) (hS : r.vS = .int (b.length : Int) tS) (hN : r.vN = .int (P : Int) tN) (hM : r.vM = .int mk tM)
    (hb : s.heap.IsList bl bys.toArray) (hbi : IntsAre bys (binsOf W D cell)) (hh : s.heap.IsList hl hys.toArray) (hhi : IntsAre hys (colsHash W D cs)) (hc : ∀ i < D, cs i < W) (hWs : W ≤ 8) (hD0 : 0 < D) (hDs : D ≤ 8) (hroom : A.depth < 700) (hhd : A.handled = none)
    (hbd : ∀ i < D, -2147483648 ≤ cell i (cs i) + n ∧ cell i (cs i) + n ≤ 2147483647) (hea : ea + n ≤ 9223372036854775807)
    (hd : s.heap.DictOf (strKind PG w) td kvs) (hp : PairsAre kvs b) (hbP : b.length ≤ P) (hP0 : 0 < P) (hPs : P ≤ 8)
    (h : ∀ h' tk' t te' tS' tM' bys' kvs', Kp [dx, bl, td] s.heap h' → h'.get? dx = some (hvObj w { r with vE := .int (ea + n) te', vS := .int ((bookStep P b mk key (lmin (picks D (bump cell cs n) cs))).1.length : Int) tS', vM := .int (bookStep P b mk key (lmin (picks D (bump cell cs n) cs))).2 tM' }) →
      h'.IsList bl bys'.toArray → IntsAre bys' (binsOf W D (bump cell cs n)) → h'.DictOf (strKind PG w) td kvs' → PairsAre kvs' (bookStep P b mk key (lmin (picks D (bump cell cs n) cs))).1 →
      Q (.int (lmin (picks D (bump cell cs n) cs)) t) { s with heap := h', toks := tk' }) :
    wpAny (model PG w) A (call (.ref 295) [.ref x, .str key tkey, .ref hl, .int n tn]) Q E s := by
  obtain ⟨ob, hob, hobc, kb, hobd⟩ := id hb
  obtain ⟨od, hod, hodd⟩ := Heap.dictOf_iff.mp hd
  refine wpAny_call ?_
  refine call_KS [(dx, hvObj w r), (bl, ob), (td, od)] (fun p hp => ?_) (B.keeps hg) (by rfl) (by rfl) (by show A.depth < 1000; omega) (binds := [("self", .ref x), ("key", .str key tkey), ("hashes", .ref hl), ("num_els", .int n tn)]) (binds_K (B.keeps hg).X (by rfl) (by rfl) (by rfl) (by rfl) (by rfl)) (locs (by rfl)) ?_ (by decide)
  · simp only [List.mem_cons, List.mem_nil_iff, or_false] at hp
    rcases hp with rfl | rfl | rfl
    · exact I.dict
    · exact hob
    · exact hod
  intro g L h₁ F N K hWL hL
  have Kg : ∀ b o, s.heap.get? b = some o → b ≠ dx → b ≠ bl → b ≠ td → g.get? b = some o := fun b o e n1 n2 n3 => K _ _ e (by simp [n1, n2, n3])
  have Bg : Bs w g := B.keeps fun b o e => Kg _ _ (hg _ _ e) (fun q => by rw [q, hdx] at e; cases e) (fun q => by rw [q, hblg] at e; cases e) (fun q => by rw [q, htdg] at e; cases e)
  have Ix : g.get? x = some (instObj 321 dx) := Kg _ _ I.at_ hxd hxb hxt
  have hhg : g.IsList hl hys.toArray := by obtain ⟨o, e, q⟩ := hh; exact ⟨o, Kg _ _ e hld hlb hlt, q⟩
  have gdx : g.get? dx = none := (N _ (.head _)).2.2
  have gbl : g.get? bl = none := (N _ (.tail _ (.head _))).2.2
  have gtd : g.get? td = none := (N _ (.tail _ (.tail _ (.head _)))).2.2
  refine ks_wpAt_execs_cons ?_
  refine ks_wpAt_Assign_Name ?_ (by with_unfolding_all rfl)
  refine super_K (f2 := 179) F Bg N Ix (.head _) (by rfl) (by rfl) (by rfl) (by rfl) (by rfl) (by first | rfl | decide +kernel) (by decide) (by rfl) (by rfl) (by rfl) (by rfl) (by kernel_rfl) (by kernel_rfl) ?_ (by with_unfolding_all rfl)
  intro so qa h2 F2 N2
  refine callWith_M Bg.X N2 (.head _) (by kernel_rfl) ?_ (by with_unfolding_all rfl) (by with_unfolding_all rfl)
  walk_at "goes"
  refine ⟨methP N2 (.head _) (Bg.X.keeps F2.keep), ?_⟩
  refine call_meth N2 (.head _) ?_
  refine add_alt_code (g₀ := g) Bg F2.keep gdx gbl hdb hlb hld hxd hxb ⟨F2.keep _ _ Ix, (N2 _ (.tail _ (.tail _ (.head _)))).1⟩ hW hB hQ hE ⟨ob, (N2 _ (.tail _ (.tail _ (.tail _ (.head _))))).1, hobc, kb, hobd⟩ hbi (isList_keeps hhg F2.keep) hhi hc hWs hD0 hDs (by show A.depth + 1 < 800; omega) hhd hbd hea ?_
  intro h3 tk3 t3 te3 bys3 K3 e3 hL3 hi3
  obtain ⟨ob3, hob3, hob3c, kb3, hob3d⟩ := hL3
  have F3 := fr_kp F2 K3 (fun a ha => by
    simp only [List.mem_cons, List.mem_nil_iff, or_false] at ha
    rcases ha with rfl | rfl
    · exact ⟨Ne.symm (N _ (.head _)).2.1, gdx⟩
    · exact ⟨Ne.symm (N _ (.tail _ (.head _))).2.1, gbl⟩)
  have N3 : News g L h3 [(dx, hvObj w { r with vE := .int (ea + n) te3 }), (bl, ob3), (td, od)] := news_kp N2 K3 (fun p hp => by
    simp only [List.mem_cons, List.mem_nil_iff, or_false] at hp
    rcases hp with rfl | rfl | rfl
    · exact .inr ⟨e3, _, .tail _ (.tail _ (.head _))⟩
    · exact .inr ⟨hob3, _, .tail _ (.tail _ (.tail _ (.head _)))⟩
    · exact .inl ⟨.tail _ (.tail _ (.tail _ (.tail _ (.head _)))), by simp [hdt.symm, hbt.symm]⟩)
  refine storeX_L F3 N3 ?_ (by rfl) (by rfl)
  intro h4 F4 N4
  refine _root_.PySem.wpAt_of_wpAny ?_
  refine cut_state (s := s) (h := h4) ?_
  intro tk4
  have mdx4 := N4 _ (.head _)
  walk_at "goes"
  refine f_S (Bg.keeps F4.keep) ⟨F4.keep _ _ Ix, mdx4.1⟩ hS ?_
  walk_at "goes"
  refine f_N (Bg.keeps F4.keep) ⟨F4.keep _ _ Ix, mdx4.1⟩ hN ?_
  have ow : ∀ (o1 o2 : Obj), ∀ p ∈ [(dx, o1), (bl, o2)], p.1 ≠ td := by
    intro o1 o2
    simp only [List.forall_mem_cons]
    exact ⟨hdt, hbt, fun _ h => nomatch h⟩
  have up2 : ∀ (o1 o2 : Obj), ∀ p ∈ [(bl, o1), (td, o2)], p.1 ≠ dx := by
    intro o1 o2
    simp only [List.forall_mem_cons]
    exact ⟨Ne.symm hdb, Ne.symm hdt, fun _ h => nomatch h⟩
  have hkl : kvs.length ≤ 16 := by rw [hp.length]; omega
  have kp : ∀ {h' : Heap}, (∀ b o, g.get? b = some o → h'.get? b = some o) → Kp [dx, bl, td] s.heap h' := fun k b o e nb =>
    k _ _ (Kg _ _ e (fun q => nb (q ▸ .head _)) (fun q => nb (q ▸ .tail _ (.head _))) (fun q => nb (q ▸ .tail _ (.tail _ (.head _)))))
  by_cases hroomy : b.length < P
  · have hbs : bookStep P b mk key (lmin (picks D (bump cell cs n) cs)) = (upsert b key (lmin (picks D (bump cell cs n) cs)), mk) := by simp [bookStep, hroomy]
    rw [hbs] at h
    refine lt_T (by omega) ?_
    walk_at "goes"
    refine f_T (Bg.keeps F4.keep) ⟨F4.keep _ _ Ix, mdx4.1⟩ hT ?_
    refine kdg_method N4 (.tail _ (.tail _ (.head _))) hodd ?_
    refine callWith_method1 ?_ (by with_unfolding_all rfl) (by with_unfolding_all rfl)
    walk_at "goes"
    refine kdg_get2 N4 (.tail _ (.tail _ (.head _))) hodd lo (strKind_is PG w key _) (valueAt kvs key) rfl ?_
    refine storeX_L F4 N4 ?_ (by rfl) (by rfl)
    intro h5 F5 N5
    refine cut_state (s := s) (h := h5) ?_
    intro tk5
    walk_at "go"
    refine wpAny_Assign_Subscript ?_ (by with_unfolding_all rfl)
    walk_at "goes"
    refine f_T (Bg.keeps F5.keep) ⟨F5.keep _ _ Ix, (N5 _ (.head _)).1⟩ hT ?_
    walk_at "goes"
    refine set_book (own := [(dx, hvObj w { r with vE := .int (ea + n) te3 }), (bl, ob3)]) (rest := []) F5 N5 hodd (ow _ _) (fun _ h => nomatch h) hkl ?_
    intro h6 od6 F6 N6 hod6
    refine cut_state (s := s) (h := h6) ?_
    intro tk6
    have hp6 := hp.stored key (lmin (picks D (bump cell cs n) cs)) t3
    have mtd : (td, od6) ∈ [(dx, hvObj w { r with vE := .int (ea + n) te3 }), (bl, ob3), (td, od6)] := .tail _ (.tail _ (.head _))
    walk_at "goes"
    by_cases hin : inBook b key = true
    · obtain ⟨n0, t0, hva⟩ := hp.valueAt_some hin
      rw [hva]
      refine is_int_none ?_
      walk_at "goes"
      refine h _ _ _ te3 tS tM bys3 _ (kp F6.keep) ?_ ⟨ob3, (N6 _ (.tail _ (.head _))).1, hob3c, kb3, hob3d⟩ hi3 (Heap.dictOf_iff.mpr ⟨od6, (N6 _ mtd).1, hod6⟩) hp6
      dsimp only
      rw [upsert_in hin, ← hS, ← hM]
      exact (N6 _ (.head _)).1
    · have hin' : inBook b key = false := by simpa using hin
      rw [hp.valueAt_none hin']
      refine is_none_none ?_
      walk_at "goes"
      refine plainObj_wpAny_Assign_Attribute ?_ (by with_unfolding_all rfl)
      walk_at "goes"
      refine b_len F6 Bg ?_ (by rfl) (by rfl)
      walk_at "goes"
      refine f_T (Bg.keeps F6.keep) ⟨F6.keep _ _ Ix, (N6 _ (.head _)).1⟩ hT ?_
      walk_at "goes"
      refine kda_len N6 mtd hod6 lo (by rw [hp6.length, upsert_out hin', List.length_append, List.length_singleton]; omega) ?_
      walk_at "goes"
      refine s_S F6 Bg N6 ⟨F6.keep _ _ Ix, (N6 _ (.head _)).1⟩ (.head (up2 _ _)) ?_
      intro h7 F7 N7
      refine cut_state (s := s) (h := h7) ?_
      intro tk7
      walk_at "goes"
      refine h _ _ _ te3 ?tt tM bys3 _ (kp F7.keep) ?ee ⟨ob3, (N7 _ (.tail _ (.head _))).1, hob3c, kb3, hob3d⟩ hi3 (Heap.dictOf_iff.mpr ⟨od6, (N7 _ (.tail _ (.tail _ (.head _)))).1, hod6⟩) hp6
      case ee =>
        dsimp only
        rw [← hp6.length, ← hM]
        exact (N7 _ (.head _)).1
  · refine lt_F (by omega) ?_
    walk_at "goes"
    refine f_T (Bg.keeps F4.keep) ⟨F4.keep _ _ Ix, mdx4.1⟩ hT ?_
    by_cases hin : inBook b key = true
    · obtain ⟨n0, t0, hva⟩ := hp.valueAt_some hin
      have hbs : bookStep P b mk key (lmin (picks D (bump cell cs n) cs)) = (upsert b key (lmin (picks D (bump cell cs n) cs)), mk) := by simp [bookStep, hin]
      rw [hbs] at h
      refine kda_in N4 (.tail _ (.tail _ (.head _))) hodd lo (strKind_is PG w key _) true (by rw [hva]; rfl) ?_
      walk_at "goes"
      refine wpAny_Assign_Subscript ?_ (by with_unfolding_all rfl)
      walk_at "goes"
      refine f_T (Bg.keeps F4.keep) ⟨F4.keep _ _ Ix, (N4 _ (.head _)).1⟩ hT ?_
      walk_at "goes"
      refine set_book (own := [(dx, hvObj w { r with vE := .int (ea + n) te3 }), (bl, ob3)]) (rest := []) F4 N4 hodd (ow _ _) (fun _ h => nomatch h) hkl ?_
      intro h6 od6 F6 N6 hod6
      refine cut_state (s := s) (h := h6) ?_
      intro tk6
      have hp6 := hp.stored key (lmin (picks D (bump cell cs n) cs)) t3
      have mtd : (td, od6) ∈ [(dx, hvObj w { r with vE := .int (ea + n) te3 }), (bl, ob3), (td, od6)] := .tail _ (.tail _ (.head _))
      walk_at "goes"
      refine h _ _ _ te3 tS tM bys3 _ (kp F6.keep) ?_ ⟨ob3, (N6 _ (.tail _ (.head _))).1, hob3c, kb3, hob3d⟩ hi3 (Heap.dictOf_iff.mpr ⟨od6, (N6 _ mtd).1, hod6⟩) hp6
      dsimp only
      rw [upsert_in hin, ← hS, ← hM]
      exact (N6 _ (.head _)).1
    · have hin' : inBook b key = false := by simpa using hin
      refine kda_in N4 (.tail _ (.tail _ (.head _))) hodd lo (strKind_is PG w key _) false (by rw [hp.valueAt_none hin']; rfl) ?_
      walk_at "goes"
      refine f_M (Bg.keeps F4.keep) ⟨F4.keep _ _ Ix, (N4 _ (.head _)).1⟩ hM ?_
      by_cases hmk : mk < lmin (picks D (bump cell cs n) cs)
      · have hbs : bookStep P b mk key (lmin (picks D (bump cell cs n) cs)) = (dropLeast (b ++ [(key, lmin (picks D (bump cell cs n) cs))]), lmin ((dropLeast (b ++ [(key, lmin (picks D (bump cell cs n) cs))])).map (·.2))) := by simp [bookStep, hroomy, hin', hmk]
        rw [hbs] at h
        refine gt_T hmk ?_
        walk_at "goes"
        refine wpAny_Assign_Subscript ?_ (by with_unfolding_all rfl)
        walk_at "goes"
        refine f_T (Bg.keeps F4.keep) ⟨F4.keep _ _ Ix, (N4 _ (.head _)).1⟩ hT ?_
        walk_at "goes"
        refine set_book (own := [(dx, hvObj w { r with vE := .int (ea + n) te3 }), (bl, ob3)]) (rest := []) F4 N4 hodd (ow _ _) (fun _ h => nomatch h) hkl ?_
        intro h6 od6 F6 N6 hod6
        refine cut_state (s := s) (h := h6) ?_
        intro tk6
        have hp6 := hp.stored key (lmin (picks D (bump cell cs n) cs)) t3
        rw [upsert_out hin'] at hp6
        generalize hb6 : b ++ [(key, lmin (picks D (bump cell cs n) cs))] = b6 at *
        have hb6l : b6.length = b.length + 1 := by rw [← hb6, List.length_append, List.length_singleton]
        have hb6n : b6 ≠ [] := by intro q; rw [q] at hb6l; simp at hb6l
        have mtd : (td, od6) ∈ [(dx, hvObj w { r with vE := .int (ea + n) te3 }), (bl, ob3), (td, od6)] := .tail _ (.tail _ (.head _))
        walk_at "goes"
        refine min_top F6 Bg N6 mtd (.head _) Ix hT (by rfl) hod6 hp6 hb6n lo hhd (by rfl) (by rfl) (by rfl) ?_
        intro i1 k1 n1 t1 h7 tk7 e7 eb7 hi7 hn7 F7 N7 u7
        refine storeX_L F7 N7 ?_ (by rfl) (by rfl)
        intro h8 F8 N8
        refine cut_state (s := s) (h := h8) ?_
        intro tk8
        walk_at "go"
        refine wpAny_Expr_any ?_ (by with_unfolding_all rfl) (by with_unfolding_all rfl)
        walk_at "goes"
        refine f_T (Bg.keeps F8.keep) ⟨F8.keep _ _ Ix, (N8 _ (.head _)).1⟩ hT ?_
        have hD8 : h8.DictOf (strKind PG w) td _ := Heap.dictOf_iff.mpr ⟨od6, (N8 _ mtd).1, hod6⟩
        refine getMethod_builtin hD8.typeIs PySem.F.plainAttrs_dict PySem.F.slot_dict_pop PySem.F.type_dict_pop hD8.mapOf.noDict ?_
        refine callWith_method1 ?_ (by with_unfolding_all rfl) (by with_unfolding_all rfl)
        walk_at "goes"
        have nd6 : ((stored kvs key (.int (lmin (picks D (bump cell cs n) cs)) t3)).map (·.1)).Nodup := by obtain ⟨_, _, _, _, _, _, _, _, z⟩ := hD8; exact z
        refine pop_book (own := [(dx, hvObj w { r with vE := .int (ea + n) te3 }), (bl, ob3)]) (rest := []) F8 N8 hod6 (valueAt_of_get nd6 e7) (ow _ _) (fun _ h => nomatch h) (by rw [hp6.length]; omega) ?_
        intro h9 od9 F9 N9 hod9
        refine cut_state (s := s) (h := h9) ?_
        intro tk9
        rw [without_eraseIdx nd6 e7] at hod9
        have hp9 := hp6.eraseIdx i1
        rw [hi7] at hp9 hod9
        have hb9l := dropLeast_length hb6n
        have hp9 : PairsAre _ (dropLeast b6) := hp9
        have hb9n : dropLeast b6 ≠ [] := by intro q; rw [q] at hb9l; simp at hb9l; omega
        have mtd9 : (td, od9) ∈ [(dx, hvObj w { r with vE := .int (ea + n) te3 }), (bl, ob3), (td, od9)] := .tail _ (.tail _ (.head _))
        walk_at "goes"
        refine min_top F9 Bg N9 mtd9 (.head _) Ix hT (by rfl) hod9 hp9 hb9n lo hhd (by rfl) (by rfl) (by rfl) ?_
        intro i2 k2 n2 t2 h10 tk10 e10 eb10 hi10 hn10 F10 N10 u10
        refine storeX_L F10 N10 ?_ (by rfl) (by rfl)
        intro h11 F11 N11
        refine cut_state (s := s) (h := h11) ?_
        intro tk11
        walk_at "go"
        refine plainObj_wpAny_Assign_Attribute ?_ (by with_unfolding_all rfl)
        walk_at "goes"
        refine f_T (Bg.keeps F11.keep) ⟨F11.keep _ _ Ix, (N11 _ (.head _)).1⟩ hT ?_
        walk_at "goes"
        have nd9 : (((stored kvs key (.int (lmin (picks D (bump cell cs n) cs)) t3)).eraseIdx (leastIdx (b6.map (·.2)))).map (·.1)).Nodup := by obtain ⟨_, _, _, _, _, _, z⟩ := hod9; exact z
        refine tail_any (kda_dict N11 mtd9 hod9).typeIs slot_dict_getitem.lookup (wpAny_getItem_of (strKind_is PG w k2 _) (kda_dict N11 mtd9 hod9).mapOf (valueAt_of_get nd9 e10) ?_) (by with_unfolding_all rfl)
        walk_at "goes"
        refine s_M F11 Bg N11 ⟨F11.keep _ _ Ix, (N11 _ (.head _)).1⟩ (.head (up2 _ _)) ?_
        intro h12 F12 N12
        refine cut_state (s := s) (h := h12) ?_
        intro tk12
        walk_at "goes"
        refine h _ _ _ te3 tS t2 bys3 _ (kp F12.keep) ?_ ⟨ob3, (N12 _ (.tail _ (.head _))).1, hob3c, kb3, hob3d⟩ hi3 (Heap.dictOf_iff.mpr ⟨od9, (N12 _ (.tail _ (.tail _ (.head _)))).1, hod9⟩) hp9
        dsimp only
        rw [show (dropLeast b6).length = b.length by omega, ← hS, ← hn10]
        exact (N12 _ (.head _)).1
      · have hbs : bookStep P b mk key (lmin (picks D (bump cell cs n) cs)) = (b, mk) := by simp [bookStep, hroomy, hin', hmk]
        rw [hbs] at h
        refine gt_F hmk ?_
        walk_at "goes"
        refine h _ _ _ te3 tS tM bys3 kvs (kp F4.keep) ?_ ⟨ob3, (N4 _ (.tail _ (.head _))).1, hob3c, kb3, hob3d⟩ hi3 (Heap.dictOf_iff.mpr ⟨od, (N4 _ (.tail _ (.tail _ (.head _)))).1, hodd⟩) hp
        dsimp only
        rw [← hS, ← hM]
        exact (N4 _ (.head _)).1
end
end

-- J3
section
/-- the whole sketch: the instance x with its dict, its bins, its book -/
structure HHs (w : World) (h : Heap) (x dx bl td hf : Addr) (W D P : Nat) (cell : Nat → Nat → Int) (ea : Int) (b : List (Str × Int)) (mk : Int) (r : HV) (bys : List Value) (kvs : List (Str × Value)) (tW tD tE tS tN tM : Tok) : Prop where
  hI : HIn w h x dx r
  hW : r.vW = .int (W : Int) tW
  hD : r.vD = .int (D : Int) tD
  hE : r.vE = .int ea tE
  hQ : r.vQ = .ref 221
  hB : r.vB = .ref bl
  hH : r.vH = .ref hf
  hT : r.vT = .ref td
  hS : r.vS = .int (b.length : Int) tS
  hN : r.vN = .int (P : Int) tN
  hM : r.vM = .int mk tM
  hl : h.IsList bl bys.toArray
  hi : IntsAre bys (binsOf W D cell)
  hd : h.DictOf (strKind PG w) td kvs
  hp : PairsAre kvs b
def HH (w : World) (h : Heap) (x dx bl td hf : Addr) (W D P : Nat) (cell : Nat → Nat → Int) (ea : Int) (b : List (Str × Int)) (mk : Int) : Prop := ∃ r bys kvs tW tD tE tS tN tM, HHs w h x dx bl td hf W D P cell ea b mk r bys kvs tW tD tE tS tN tM
theorem HHs.keeps {w : World} {h h' : Heap} {x dx bl td hf : Addr} {W D P : Nat} {cell : Nat → Nat → Int} {ea : Int} {b : List (Str × Int)} {mk : Int} {r : HV} {bys : List Value} {kvs : List (Str × Value)} {tW tD tE tS tN tM : Tok}
    (X : HHs w h x dx bl td hf W D P cell ea b mk r bys kvs tW tD tE tS tN tM) (k : ∀ b o, h.get? b = some o → h'.get? b = some o) : HHs w h' x dx bl td hf W D P cell ea b mk r bys kvs tW tD tE tS tN tM :=
  ⟨X.hI.keeps k, X.hW, X.hD, X.hE, X.hQ, X.hB, X.hH, X.hT, X.hS, X.hN, X.hM, isList_keeps X.hl k, X.hi, X.hd.keep k, X.hp⟩
theorem HH.keeps {w : World} {h h' : Heap} {x dx bl td hf : Addr} {W D P : Nat} {cell : Nat → Nat → Int} {ea : Int} {b : List (Str × Int)} {mk : Int} (X : HH w h x dx bl td hf W D P cell ea b mk) (k : ∀ b o, h.get? b = some o → h'.get? b = some o) : HH w h' x dx bl td hf W D P cell ea b mk :=
  let ⟨r, bys, kvs, tW, tD, tE, tS, tN, tM, Y⟩ := X; ⟨r, bys, kvs, tW, tD, tE, tS, tN, tM, Y.keeps k⟩
/-- its parts lie apart, above g₀ -/
structure Apart (g₀ : Heap) (x dx bl td : Addr) : Prop where
  gdx : g₀.get? dx = none
  gbl : g₀.get? bl = none
  gtd : g₀.get? td = none
  db : dx ≠ bl
  dt : dx ≠ td
  bt : bl ≠ td
  xd : x ≠ dx
  xb : x ≠ bl
  xt : x ≠ td
  lo : (td == sysModules) = false
theorem ne_none {h : Heap} {a b : Addr} {o : Obj} (e : h.get? a = some o) (n : h.get? b = none) : b ≠ a := fun q => by rw [q, e] at n; cases n
section
variable {w : World} {A : Around} {E : Value → Shared → Prop} {s : Shared} {x dx bl td hf : Addr} {Q : Value → Shared → Prop} {W D P : Nat} {cs : Nat → Nat} {cell : Nat → Nat → Int} {n ea mk : Int} {key : Str} {b : List (Str × Int)} {tn tkey : Tok} {g₀ H : Heap}
theorem hh_check (B : Bs w s.heap) (S : HH w s.heap x dx bl td hf W D P cell ea b mk) (hH : ∀ b o, H.get? b = some o → s.heap.get? b = some o) (Z : HSpec w H hf key D (colsHash W D cs))
    (hc : ∀ i < D, cs i < W) (hWs : W ≤ 8) (hD0 : 0 < D) (hDs : D ≤ 8) (hroom : A.depth < 650) (hhd : A.handled = none)
    (h : ∀ h' tk' t, Kp [] s.heap h' → Q (.int (lmin (picks D cell cs)) t) { s with heap := h', toks := tk' }) : wpAny (model PG w) A (call (.ref 202) [.ref x, .str key tkey]) Q E s := by
  obtain ⟨r, bys, kvs, tW, tD, tE, tS, tN, tM, Y⟩ := S
  exact check_spec hH Z B Y.hI Y.hW Y.hD Y.hH Y.hB Y.hQ Y.hl Y.hi hc hWs hD0 hDs (by omega) hhd h
set_option maxHeartbeats 4000000 in
theorem hh_add (B : Bs w g₀) (hg : ∀ b o, g₀.get? b = some o → s.heap.get? b = some o) (Ap : Apart g₀ x dx bl td) (S : HH w s.heap x dx bl td hf W D P cell ea b mk) (hH : ∀ b o, H.get? b = some o → s.heap.get? b = some o) (Z : HSpec w H hf key D (colsHash W D cs))
    (hc : ∀ i < D, cs i < W) (hWs : W ≤ 8) (hD0 : 0 < D) (hDs : D ≤ 8) (hroom : A.depth < 650) (hhd : A.handled = none)
    (hbd : ∀ i < D, -2147483648 ≤ cell i (cs i) + n ∧ cell i (cs i) + n ≤ 2147483647) (hea : ea + n ≤ 9223372036854775807) (hbP : b.length ≤ P) (hP0 : 0 < P) (hPs : P ≤ 8)
    (h : ∀ h' tk' t, Kp [dx, bl, td] s.heap h' → HH w h' x dx bl td hf W D P (bump cell cs n) (ea + n) (bookStep P b mk key (lmin (picks D (bump cell cs n) cs))).1 (bookStep P b mk key (lmin (picks D (bump cell cs n) cs))).2 →
      Q (.int (lmin (picks D (bump cell cs n) cs)) t) { s with heap := h', toks := tk' }) : wpAny (model PG w) A (call (.ref 286) [.ref x, .str key tkey, .int n tn]) Q E s := by
  have Bs' := B.keeps hg
  obtain ⟨r, bys, kvs, tW, tD, tE, tS, tN, tM, Y⟩ := S
  refine wpAny_call ?_
  refine call_K [] (fun _ h => nomatch h) Bs' (by rfl) (by rfl) (by show A.depth < 1000; omega) (binds := [("self", .ref x), ("key", .str key tkey), ("num_els", .int n tn)]) (binds_K Bs'.X (by rfl) (by rfl) (by rfl) (by rfl) (by rfl)) (locs (by rfl)) ?_ (by decide)
  intro g L h₁ F N K _ hL
  have Kg : ∀ b o, s.heap.get? b = some o → g.get? b = some o := fun b o e => K _ _ e (by simp)
  have Bg := Bs'.keeps Kg
  have Yg := Y.keeps Kg
  walk_at "goes"
  refine m_add_alt (Bg.keeps F.keep) (Yg.hI.keeps F.keep) ?_
  refine callWith_F (fnAt_K (Bg.keeps F.keep) (by kernel_rfl)) ?_ (by with_unfolding_all rfl) (by with_unfolding_all rfl)
  walk_at "goes"
  refine m_hashes (Bg.keeps F.keep) (Yg.hI.keeps F.keep) ?_
  refine callWith_F (fnAt_K (Bg.keeps F.keep) (by kernel_rfl)) ?_ (by with_unfolding_all rfl) (by with_unfolding_all rfl)
  walk_at "goes"
  refine ⟨fnAt_K (Bg.keeps F.keep) (by kernel_rfl), ?_⟩
  refine hashes_spec (fun b o e => F.keep _ _ (Kg _ _ (hH _ _ e))) Z (Bg.keeps F.keep) (Yg.hI.keeps F.keep) Y.hH Y.hD (by show A.depth + 1 < 840; omega) hhd ?_
  intro l h2 tk2 ys K2 hl hl2 hy
  have F2 := F.keeps K2.all
  refine cut_state (s := s) (h := h2) ?_
  intro tk2'
  walk_at "goes"
  refine ⟨fnAt_K (Bg.keeps F2.keep) (by kernel_rfl), ?_⟩
  have k2 : ∀ b o, s.heap.get? b = some o → h2.get? b = some o := fun b o e => F2.keep _ _ (Kg _ _ e)
  have k1 : ∀ b o, s.heap.get? b = some o → h₁.get? b = some o := fun b o e => F.keep _ _ (Kg _ _ e)
  have Y2 := Y.keeps k2
  have Y1 := Y.keeps k1
  have hl : h₁.get? l = none := hl
  obtain ⟨_, ebl, _⟩ := Y1.hl
  obtain ⟨_, _, _, etd, _⟩ := Y1.hd
  refine hh_add_alt (g₀ := g₀) B (fun b o e => k2 _ _ (hg _ _ e)) Ap.gdx Ap.gbl Ap.gtd Ap.db Ap.dt Ap.bt (ne_none ebl hl) (ne_none Y1.hI.dict hl) (ne_none etd hl) Ap.xd Ap.xb Ap.xt Ap.lo Y2.hI Y.hW Y.hB Y.hQ Y.hE Y.hT Y.hS Y.hN Y.hM Y2.hl Y.hi (lst_list hl2) hy hc hWs hD0 hDs (by show A.depth + 1 < 700; omega) hhd hbd hea Y2.hd Y.hp hbP hP0 hPs ?_
  intro h3 tk3 t3 te3 tS3 tM3 bys3 kvs3 K3 e3 hL3 hi3 hd3 hp3
  refine h h3 tk3 t3 (fun b o e n => K3 _ _ (k2 _ _ e) n) ⟨_, bys3, kvs3, tW, tD, te3, tS3, tN, tM3, ⟨⟨K3 _ _ Y2.hI.at_ (by simp [Ap.xd, Ap.xb, Ap.xt]), e3⟩, Y.hW, Y.hD, rfl, Y.hQ, Y.hB, Y.hH, Y.hT, rfl, Y.hN, rfl, hL3, hi3, hd3, hp3⟩⟩
end
end

-- J4
section
section
variable {w : World} {A : Around} {E : Value → Shared → Prop} {s : Shared} {x dx : Addr} {r : HV} {Q : Value → Shared → Prop}
theorem zeros_bins {W D : Nat} {ns : List Int} (hl : ns.length = W * D) (h : ∀ j < W * D, ns[j]? = some 0) : ns = binsOf W D (fun _ _ => 0) := by
  apply List.ext_getElem?
  intro j
  by_cases q : j < W * D
  · rw [h j q]; simp [binsOf, q]
  · rw [List.getElem?_eq_none (by omega), List.getElem?_eq_none (by simp [binsOf]; omega)]
set_option maxHeartbeats 4000000 in
theorem cms_clear_code {R : Result → Shared → Prop} {W D : Nat} {cell : Nat → Nat → Int} {bl : Addr} {bys : List Value} {g₀ : Heap} (B : Bs w g₀) (hg : ∀ b o, g₀.get? b = some o → s.heap.get? b = some o) (hdx : g₀.get? dx = none) (hblg : g₀.get? bl = none) (hdb : dx ≠ bl)
    (hxd : x ≠ dx) (hxb : x ≠ bl) (I : HIn w s.heap x dx r) (hB : r.vB = .ref bl)
    (hb : s.heap.IsList bl bys.toArray) (hbi : IntsAre bys (binsOf W D cell)) (hWs : W ≤ 8) (hDs : D ≤ 8) (hroom : A.depth < 800) (hhd : A.handled = none)
    (h : ∀ h' tk' te' bys', Kp [dx, bl] s.heap h' → h'.get? dx = some (hvObj w { r with vE := .int 0 te' }) → h'.IsList bl bys'.toArray → IntsAre bys' (binsOf W D fun _ _ => 0) →
      R (.ok (.ret .none)) { s with heap := h', toks := tk' }) :
    codeAny (model PG w) A (.call (.ref 157) ⟨[.ref x], []⟩) R s := by
  obtain ⟨ob, hob, hobc, kb, hobd⟩ := id hb
  refine call_K [(dx, hvObj w r), (bl, ob)] (fun p hp => ?_) (B.keeps hg) (by rfl) (by rfl) (by show A.depth < 1000; omega) (binds := [("self", .ref x)]) (.of_eq (by rfl)) (locs (by rfl)) ?_ (by decide)
  · rcases List.mem_cons.mp hp with rfl | hp
    · exact I.dict
    · rw [List.mem_singleton.mp hp]; exact hob
  intro g L h₁ F N K hWL hL
  have Kg : ∀ b o, s.heap.get? b = some o → b ≠ dx → b ≠ bl → g.get? b = some o := fun b o e n1 n2 => K _ _ e (by simp [n1, n2])
  have Bg : Bs w g := B.keeps fun b o e => Kg _ _ (hg _ _ e) (fun q => by rw [q, hdx] at e; cases e) (fun q => by rw [q, hblg] at e; cases e)
  have Ix : g.get? x = some (instObj 321 dx) := Kg _ _ I.at_ hxd hxb
  have gdx : g.get? dx = none := (N _ (.head _)).2.2
  have gbl : g.get? bl = none := (N _ (.tail _ (.head _))).2.2
  have hbl : bys.length = W * D := by rw [hbi.length]; simp [binsOf]
  have hWD : W * D ≤ 8 * 8 := Nat.mul_le_mul hWs hDs
  walk_at "go"
  refine plainObj_wpAny_Assign_Attribute ?_ (by with_unfolding_all rfl)
  walk_at "goes"
  refine s_E F Bg N ⟨F.keep _ _ Ix, (N _ (.head _)).1⟩ (.head (by intro p hp; rw [List.mem_singleton.mp hp]; exact Ne.symm hdb)) ?_
  intro h2 F2 N2
  replace N2 : ∃ te0, News g L h2 [(dx, hvObj w { r with vE := .int 0 te0 }), (bl, ob)] := ⟨_, N2⟩
  obtain ⟨te0, N2⟩ := N2
  refine cut_state (s := s) (h := h2) ?_
  intro tk2
  walk_at "go"
  refine For_mut (g := g) (n := W * D) (l := bl) (ol := ob) (vs := bys) (news := [(dx, hvObj w { r with vE := .int 0 te0 })]) (m := fun y => [(Str.ofString "self", Value.ref x)].reverse.lookup y) ?_ hhd ⟨hobc, kb, hobd⟩ hbl (by rfl) (by rfl) (by rfl)
    (fun i m vs => m (Str.ofString "self") = some (.ref x) ∧ ∃ ns, IntsAre vs ns ∧ ns.length = W * D ∧ ∀ j < i, ns[j]? = some 0) ?_ ?_ ?_ (by intro _; with_unfolding_all rfl)
  · walk_at "goes"
    refine b_enumerate F2 Bg ?_ (by rfl) (by rfl)
    walk_at "goes"
    refine f_B (Bg.keeps F2.keep) ⟨F2.keep _ _ Ix, (N2 _ (.head _)).1⟩ hB ?_
    walk_at "goes"
    refine call_enumerate_list ⟨ob, (N2 _ (.tail _ (.head _))).1, hobc, kb, hobd⟩ fun h3 hE3 hI3 hsz3 up3 => ?_
    have F3 := F2.keeps up3
    have N3 := N2.grown up3
    have z0 : h2.get? h2.objs.size = none := get?_none_ge (Nat.le_refl _)
    have z1 : h2.get? (h2.objs.size + 1) = none := get?_none_ge (Nat.le_succ _)
    have hLlt := F2.ns.lt
    have bLlt := Heap.lt_size (N2 _ (.tail _ (.head _))).1
    refine ⟨h3, _, rfl, F3, fun p hp => ?_, h2.objs.size + 1, h2.objs.size, rfl, hE3, hI3, Nat.succ_ne_self _, Nat.ne_of_lt (Nat.lt_succ_of_lt bLlt), Nat.ne_of_lt bLlt, Nat.ne_of_lt (Nat.lt_succ_of_lt hLlt), Nat.ne_of_lt hLlt, none_of_up' F2.keep z1, none_of_up' F2.keep z0, fun p hp => ?_⟩
    · rcases List.mem_cons.mp hp with rfl | hp
      · exact N3 _ (.tail _ (.head _))
      · rw [List.mem_singleton.mp hp]; exact N3 _ (.head _)
    · rw [List.mem_singleton.mp hp]
      have := Heap.lt_size (N2 _ (.head _)).1
      exact ⟨Nat.ne_of_lt (Nat.lt_succ_of_lt this), Nat.ne_of_lt this⟩
  · exact ⟨by rfl, _, hbi, by rw [← hbi.length]; exact hbl, fun j hj => absurd hj (Nat.not_lt_zero _)⟩
  · rintro e it i v t m₁ vs₁ ol₁ h3 tk3 oe oi hle hli hv hvl ⟨hself, ns, hns, hnl, hz⟩ hol F3 N3
    have hi : i < W * D := by have := (List.getElem?_eq_some_iff.mp hv).1; omega
    have hself' : (fun z => if z = Str.ofString "_" then some v else if z = Str.ofString "i" then some (Value.int (i : Int) t) else m₁ z) (Str.ofString "self") = some (.ref x) := hself
    walk_at "go"
    refine wpAny_Assign_Subscript ?_ (by with_unfolding_all rfl)
    walk_at "goes"
    refine f_B (Bg.keeps F3.keep) ⟨F3.keep _ _ Ix, (N3 _ (.tail _ (.tail _ (.tail _ (.head _))))).1⟩ hB ?_
    walk_at "goes"
    have n3 := N3 _ (.tail _ (.tail _ (.head _)))
    refine wpAny_setItem_list (listObj_at n3.1 hol) (by omega) (by omega) (by rw [List.size_toArray, hvl]; omega) fun h4 hL4 hs4 => ?_
    obtain ⟨ol4, hol4, hol4c, k4, hol4d⟩ := hL4
    have F4 := F3.change hs4 n3.2.1 n3.2.2
    have N4 := News.setAt (own := [(e, oe), (it, oi)]) (rest := [(dx, hvObj w { r with vE := .int 0 te0 })]) N3 (by simp only [List.forall_mem_cons]; exact ⟨Ne.symm hle, Ne.symm hli, fun _ h => nomatch h⟩) (by intro p hp; rw [List.mem_singleton.mp hp]; exact hdb) hs4 hol4
    walk_at "goes"
    refine ⟨rfl, h4, _, _, vs₁.set i (.int 0 _), ol4, rfl, F4, N4, ⟨hol4c, k4, by rw [hol4d, Int.toNat_natCast, List.setIfInBounds_toArray]⟩, by rw [List.length_set]; exact hvl, hself', ns.set i 0, ints_set hns _ _ _, by rw [List.length_set]; exact hnl, fun j hj => ?_⟩
    rw [List.getElem?_set]
    by_cases q : i = j
    · subst q; simp [hnl, hi]
    · rw [if_neg q]; exact hz j (by omega)
  · rintro h3 tk3 m₁ vs₁ ol₁ F3 N3 hol hvl ⟨hself, ns, hns, hnl, hz⟩
    walk_at "goes"
    rw [zeros_bins hnl hz] at hns
    exact h h3 _ _ vs₁ (fun b o e n => F3.keep _ _ (Kg _ _ e (fun q => n (q ▸ .head _)) (fun q => n (q ▸ .tail _ (.head _))))) (N3 _ (.tail _ (.head _))).1 (listObj_at (N3 _ (.head _)).1 hol) hns
end
end

-- J5
section
section
variable {w : World} {A : Around} {E : Value → Shared → Prop} {s : Shared} {x dx bl td hf : Addr} {Q : Value → Shared → Prop} {W D P : Nat} {cell : Nat → Nat → Int} {ea mk : Int} {b : List (Str × Int)} {g₀ : Heap}
set_option maxHeartbeats 4000000 in
theorem hh_clear (B : Bs w g₀) (hg : ∀ b o, g₀.get? b = some o → s.heap.get? b = some o) (Ap : Apart g₀ x dx bl td) (S : HH w s.heap x dx bl td hf W D P cell ea b mk)
    (hWs : W ≤ 8) (hDs : D ≤ 8) (hroom : A.depth < 650) (hhd : A.handled = none)
    (h : ∀ h' tk' td', Kp [dx, bl] s.heap h' → s.heap.get? td' = none → (td' == sysModules) = false → HH w h' x dx bl td' hf W D P (fun _ _ => 0) 0 [] 0 → Q .none { s with heap := h', toks := tk' }) :
    wpAny (model PG w) A (call (.ref 311) [.ref x]) Q E s := by
  obtain ⟨r, bys, kvs, tW, tD, tE, tS, tN, tM, Y⟩ := S
  obtain ⟨ob, hob, hobc, kb, hobd⟩ := id Y.hl
  refine wpAny_call ?_
  refine call_KS [(dx, hvObj w r), (bl, ob)] (fun p hp => ?_) (B.keeps hg) (by rfl) (by rfl) (by show A.depth < 1000; omega) (binds := [("self", .ref x)]) (.of_eq (by rfl)) (locs (by rfl)) ?_ (by decide)
  · rcases List.mem_cons.mp hp with rfl | hp
    · exact Y.hI.dict
    · rw [List.mem_singleton.mp hp]; exact hob
  intro g L h₁ F N K hWL hL
  have Kg : ∀ b o, s.heap.get? b = some o → b ≠ dx → b ≠ bl → g.get? b = some o := fun b o e n1 n2 => K _ _ e (by simp [n1, n2])
  have Bg : Bs w g := B.keeps fun b o e => Kg _ _ (hg _ _ e) (fun q => by rw [q, Ap.gdx] at e; cases e) (fun q => by rw [q, Ap.gbl] at e; cases e)
  have Ix : g.get? x = some (instObj 321 dx) := Kg _ _ Y.hI.at_ Ap.xd Ap.xb
  have gdx : g.get? dx = none := (N _ (.head _)).2.2
  have gbl : g.get? bl = none := (N _ (.tail _ (.head _))).2.2
  refine ks_wpAt_execs_cons ?_
  refine ks_wpAt_Expr_any ?_ (by with_unfolding_all rfl) (by with_unfolding_all rfl)
  refine super_K (f2 := 157) F Bg N Ix (.head _) (by rfl) (by rfl) (by rfl) (by rfl) (by rfl) (by first | rfl | decide +kernel) (by decide) (by rfl) (by rfl) (by rfl) (by rfl) (by kernel_rfl) (by kernel_rfl) ?_ (by with_unfolding_all rfl)
  intro so qa h2 F2 N2
  refine callWith_M0 (methP N2 (.head _) (Bg.X.keeps F2.keep)) (by kernel_rfl) ?_
  refine call_meth N2 (.head _) ?_
  refine cms_clear_code (g₀ := g) Bg F2.keep gdx gbl Ap.db Ap.xd Ap.xb ⟨F2.keep _ _ Ix, (N2 _ (.tail _ (.tail _ (.head _)))).1⟩ Y.hB ⟨ob, (N2 _ (.tail _ (.tail _ (.tail _ (.head _))))).1, hobc, kb, hobd⟩ Y.hi hWs hDs (by show A.depth + 1 < 800; omega) hhd ?_
  intro h3 tk3 te3 bys3 K3 e3 hL3 hi3
  obtain ⟨ob3, hob3, hob3c, kb3, hob3d⟩ := hL3
  have F3 := fr_kp F2 K3 (fun a ha => by
    simp only [List.mem_cons, List.mem_nil_iff, or_false] at ha
    rcases ha with rfl | rfl
    · exact ⟨Ne.symm (N _ (.head _)).2.1, gdx⟩
    · exact ⟨Ne.symm (N _ (.tail _ (.head _))).2.1, gbl⟩)
  have N3 : News g L h3 [(dx, hvObj w { r with vE := .int 0 te3 }), (bl, ob3)] := news_kp N2 K3 (fun p hp => by
    simp only [List.mem_cons, List.mem_nil_iff, or_false] at hp
    rcases hp with rfl | rfl
    · exact .inr ⟨e3, _, .tail _ (.tail _ (.head _))⟩
    · exact .inr ⟨hob3, _, .tail _ (.tail _ (.tail _ (.head _)))⟩)
  refine _root_.PySem.wpAt_of_wpAny ?_
  refine cut_state (s := s) (h := h3) ?_
  intro tk3'
  walk_at "go"
  refine plainObj_wpAny_Assign_Attribute ?_ (by with_unfolding_all rfl)
  refine Dict_empty_made (strKind PG w) PyData.str F3 N3 (modules_low Bg.nolimit) ?_
  intro h4 o4 F4 N4 lo4 hd4 _ ap4
  have ud : ∀ p ∈ [(bl, ob3)], p.1 ≠ dx := fun p hp => by rw [List.mem_singleton.mp hp]; exact Ne.symm Ap.db
  walk_at "goes"
  refine s_T F4 Bg N4 ⟨F4.keep _ _ Ix, (N4 _ (.tail _ (.head _))).1⟩ (.tail (Ne.symm (ap4 _ (.head _))) (.head ud)) ?_
  intro h5 F5 N5
  refine cut_state (s := s) (h := h5) ?_
  intro tk5
  walk_at "go"
  refine plainObj_wpAny_Assign_Attribute ?_ (by with_unfolding_all rfl)
  walk_at "goes"
  refine s_S F5 Bg N5 ⟨F5.keep _ _ Ix, (N5 _ (.tail _ (.head _))).1⟩ (.tail (Ne.symm (ap4 _ (.head _))) (.head ud)) ?_
  intro h6 F6 N6
  refine cut_state (s := s) (h := h6) ?_
  intro tk6
  walk_at "go"
  refine plainObj_wpAny_Assign_Attribute ?_ (by with_unfolding_all rfl)
  walk_at "goes"
  refine s_M F6 Bg N6 ⟨F6.keep _ _ Ix, (N6 _ (.tail _ (.head _))).1⟩ (.tail (Ne.symm (ap4 _ (.head _))) (.head ud)) ?_
  intro h7 F7 N7
  walk_at "goes"
  have n7 := N7 _ (.head _)
  refine h h7 _ h3.objs.size (fun b o e n => F7.keep _ _ (Kg _ _ e (fun q => n (q ▸ .head _)) (fun q => n (q ▸ .tail _ (.head _))))) ?_ lo4 ?_
  · cases q : s.heap.get? h3.objs.size with
    | none => rfl
    | some o =>
      have g3 : h3.get? h3.objs.size = none := get?_none_ge (Nat.le_refl _)
      by_cases q1 : h3.objs.size = dx
      · rw [q1, e3] at g3; cases g3
      · by_cases q2 : h3.objs.size = bl
        · rw [q2, hob3] at g3; cases g3
        · rw [F3.keep _ _ (Kg _ _ q q1 q2)] at g3; cases g3
  · exact ⟨_, bys3, [], tW, tD, te3, _, tN, _, ⟨⟨F7.keep _ _ Ix, (N7 _ (.tail _ (.head _))).1⟩, Y.hW, Y.hD, rfl, Y.hQ, Y.hB, Y.hH, rfl, rfl, Y.hN, rfl, ⟨ob3, (N7 _ (.tail _ (.tail _ (.head _)))).1, hob3c, kb3, hob3d⟩, hi3, Heap.dictOf_iff.mpr ⟨o4, n7.1, hd4⟩, .nil⟩⟩
end
end

-- K1
section
/-- the instance while it is made: its dict holds es -/
structure PI (w : World) (h : Heap) (x dx : Addr) (es : List DictEntry) (n : Nat) : Prop where
  at_ : h.get? x = some (instObj 321 dx)
  dict : h.get? dx = some (dictOf es n)
theorem PI.inst {w : World} {h : Heap} {x dx : Addr} {es : List DictEntry} {n : Nat} (H : PI w h x dx es n) : W.InstAt h x (instObj 321 dx) 321 (some (dictOf es n)) := ⟨H.at_, rfl, rfl, H.dict⟩
theorem putL_new {name : Str} {hsh : Int} {key v : Value} : ∀ {es : List DictEntry}, es.any (·.key.isStr name) = false → putL name hsh key v es = es ++ [⟨hsh, key, v⟩]
  | [], _ => rfl
  | e :: r, h => by
    rw [List.any_cons, Bool.or_eq_false_iff] at h
    unfold putL
    rw [if_neg (by rw [h.1]; decide), putL_new h.2]
    rfl
section
variable {w : World} {A : Around} {E : Value → Shared → Prop} {s : Shared} {h₀ : Heap} {L x dx : Addr} {m : Str → Option Value} {es : List DictEntry} {n : Nat} {Q : Value → Shared → Prop} {b : Bool} {own rest : List (Addr × Obj)}
theorem pf_any {name : Str} {v : Value} (hg : plainGet (KK w) 321 name = true) (ha : findIn (KK w) (.ref 321) name = some none) (hl : getL name es = some (some v)) (B : Bs w s.heap) (H : PI w s.heap x dx es n) (hv : handedIn v = true) (h : Q v { s with toks := s.toks + 1 }) :
    wpAny (model PG w) A (getAttr (.ref x) name b) Q E s :=
  get_value B.X H.inst (plainGet_of hg).1 (findObj_own (hh_has w) ha (by rfl) hl) hv h
theorem updAt {d : Addr} {o o' : Obj} : ∀ {own rest : List (Addr × Obj)}, (∀ p ∈ own, p.1 ≠ d) → (∀ p ∈ rest, p.1 ≠ d) → Upd d o o' (own ++ (d, o) :: rest) (own ++ (d, o') :: rest)
  | [], _, _, h2 => .head h2
  | p :: r, _, h1, h2 => .tail (h1 p (.head _)) (updAt (fun q hq => h1 q (.tail _ hq)) h2)
/-- a new field -/
theorem ps_new {name : Str} {v : Value} {Q : Unit → Shared → Prop} (ht : takerIn (KK w) 321 name = some none) (hl : (getL name es).isSome = true) (hn : es.any (·.key.isStr name) = false) (hes : es.length < 900)
    (F : Fr h₀ L s.heap m) (B : Bs w h₀) (N : News h₀ L s.heap (own ++ (dx, dictOf es n) :: rest)) (hx : h₀.get? x = some (instObj 321 dx)) (h1 : ∀ p ∈ own, p.1 ≠ dx) (h2 : ∀ p ∈ rest, p.1 ≠ dx)
    (h : ∀ h' t, Fr h₀ L h' m → News h₀ L h' (own ++ (dx, dictOf (es ++ [en w name t v]) (n + 1)) :: rest) → Q () { s with heap := h', toks := s.toks + 2 }) : wpAny (model PG w) A (setAttr (.ref x) name v) Q E s :=
  set_dict F B.X N (PI.inst (w := w) ⟨F.keep _ _ hx, (N _ (List.mem_append_right _ (.head _))).1⟩) rfl (hh_set w) (hh_over w) ht (hh_has w) hl
    (Prod.ext (putL_new hn) (by show putN _ _ _ = n + 1; unfold putN; rw [hn]; rfl)) (updAt h1 h2) (by rw [List.length_append, List.length_singleton]; omega) fun h' F' N' => h h' _ F' N'
/-- a field again -/
theorem ps_old {name : Str} {v : Value} {es' : List DictEntry} {Q : Unit → Shared → Prop} (ht : takerIn (KK w) 321 name = some none) (hl : (getL name es).isSome = true) (hn : es.any (·.key.isStr name) = true) (he : ∀ t, putL name (PyData.keyHash w.params name) (.str name t) v es = es') (hes : es'.length < 900)
    (F : Fr h₀ L s.heap m) (B : Bs w h₀) (N : News h₀ L s.heap (own ++ (dx, dictOf es n) :: rest)) (hx : h₀.get? x = some (instObj 321 dx)) (h1 : ∀ p ∈ own, p.1 ≠ dx) (h2 : ∀ p ∈ rest, p.1 ≠ dx)
    (h : ∀ h', Fr h₀ L h' m → News h₀ L h' (own ++ (dx, dictOf es' n) :: rest) → Q () { s with heap := h', toks := s.toks + 2 }) : wpAny (model PG w) A (setAttr (.ref x) name v) Q E s :=
  set_dict F B.X N (PI.inst (w := w) ⟨F.keep _ _ hx, (N _ (List.mem_append_right _ (.head _))).1⟩) rfl (hh_set w) (hh_over w) ht (hh_has w) hl
    (Prod.ext (he _) (by show putN _ _ _ = n; unfold putN; rw [hn]; rfl)) (updAt h1 h2) (by omega) fun h' F' N' => h h' F' N'
theorem pp_call {f : Addr} {fld : Str} {v : Value} {R : Result → Shared → Prop} {name qual : Str} {params : Arguments} {scope : Scope} {dV kV doc pm cdv ct : Value} {an : Option Addr} {oc : Value} {od : Option Addr} {osl : Array (Option Value)} {px pos rpos : Pos}
    (ho : (KK w).lookup f = some ⟨oc, od, .func (fnX name qual params [.Return (some (.Attribute (.Name (Str.ofString "self") px) fld pos)) rpos] scope [] dV kV doc pm an cdv ct), osl⟩) (hcd : codeIn (KK w) cdv qual = true)
    (hbind : BindsTo s (fnX name qual params [.Return (some (.Attribute (.Name (Str.ofString "self") px) fld pos)) rpos] scope [] dV kV doc pm an cdv ct) ⟨[.ref x], []⟩ [(Str.ofString "self", .ref x)]) (hsc : scope.names.lookup (Str.ofString "self") = some .local) (hcell : ∀ x ∈ scope.names, x.2 ≠ .cell)
    (hg : plainGet (KK w) 321 fld = true) (ha : findIn (KK w) (.ref 321) fld = some none) (hl : getL fld es = some (some v)) (B : Bs w s.heap) (H : PI w s.heap x dx es n) (hv : handedIn v = true) (hroom : A.depth < 900)
    (hco : scope.isCoroutine = false) (hgen : scope.isGenerator = false) (hk : scope.kind = .function)
    (he : ∀ env, eval (.Attribute (.Name (Str.ofString "self") px) fld pos) env = (do let o ← eval (.Name (Str.ofString "self") px) env; standAt (Pos.atName pos); let r ← holding [o] (getAttr o fld true); letTemporaryGo (.Name (Str.ofString "self") px) o r; pure r))
    (h : ∀ h' tk', Kp [] s.heap h' → R (.ok (.ret v)) { s with heap := h', toks := tk' }) : codeAny (model PG w) A (.call (.ref f) ⟨[.ref x], []⟩) R s := by
  refine call_K [] (fun _ h => nomatch h) B ho hcd (by show A.depth < 1000; omega) hbind (fun y hy => by rw [List.mem_singleton.mp hy]; exact hsc) ?_ hcell hco hgen hk
  intro g L h₁ F₁ N₁ K₁ _ _
  have up : ∀ b o, s.heap.get? b = some o → h₁.get? b = some o := fun b o e => F₁.keep _ _ (K₁ _ _ e (by simp))
  refine wpAny_execs_cons (wpAny_Return_some (Attribute_Name_ (nameX_L F₁ (v := .ref x) (by rfl) ?_ hk hsc (by decide)) (he _)))
  exact pf_any hg ha hl (B.keeps up) ⟨up _ _ H.at_, up _ _ H.dict⟩ hv (h _ _ fun b o e _ => up b o e)
theorem pp_width {v : Value} (B : Bs w s.heap) (H : PI w s.heap x dx es n) (hroom : A.depth < 890) (hl : getL (Str.ofString "_CountMinSketch__width") es = some (some v))
    (h : ∀ h' tk', Kp [] s.heap h' → Q v { s with heap := h', toks := tk' }) (hv : handedIn v = true := by rfl) : wpAny (model PG w) A (getAttr (.ref x) (Str.ofString "width") b) Q E s := by
  have hg : plainGet (KK w) 321 (Str.ofString "width") = true := by kernel_rfl
  refine get_bind B.X H.inst (plainGet_of hg).1 (findObj_data (a := .ref 117) (g := .builtin "property.__get__") (by obtain ⟨cd, hc, _⟩ := any_some (hh_has w); rw [hc]; rfl) (by kernel_rfl) (by kernel_rfl) (by kernel_rfl)) (plainGet_of hg).2 (wpAny_call (prop_get (s := { s with toks := s.toks + 1 }) (fget := 116) (rest := _) B.X (by rfl) ?_))
  refine pp_call (s := { s with toks := s.toks + 1 }) (by rfl) (by rfl) (.of_eq (by rfl)) (by rfl) (by decide) (g_W w) (a_W w) hl B H hv (by show A.depth < 900; omega) (by rfl) (by rfl) (by rfl) (fun _ => by rfl) ?_
  intro h' tk' K
  show wpAny _ _ (handedOut v) _ _ _
  rw [handedOut_of hv]
  exact wpAny_pure (h h' tk' K)
theorem pp_depth {v : Value} (B : Bs w s.heap) (H : PI w s.heap x dx es n) (hroom : A.depth < 890) (hl : getL (Str.ofString "_CountMinSketch__depth") es = some (some v))
    (h : ∀ h' tk', Kp [] s.heap h' → Q v { s with heap := h', toks := tk' }) (hv : handedIn v = true := by rfl) : wpAny (model PG w) A (getAttr (.ref x) (Str.ofString "depth") b) Q E s := by
  have hg : plainGet (KK w) 321 (Str.ofString "depth") = true := by kernel_rfl
  refine get_bind B.X H.inst (plainGet_of hg).1 (findObj_data (a := .ref 125) (g := .builtin "property.__get__") (by obtain ⟨cd, hc, _⟩ := any_some (hh_has w); rw [hc]; rfl) (by kernel_rfl) (by kernel_rfl) (by kernel_rfl)) (plainGet_of hg).2 (wpAny_call (prop_get (s := { s with toks := s.toks + 1 }) (fget := 124) (rest := _) B.X (by rfl) ?_))
  refine pp_call (s := { s with toks := s.toks + 1 }) (by rfl) (by rfl) (.of_eq (by rfl)) (by rfl) (by decide) (g_D w) (a_D w) hl B H hv (by show A.depth < 900; omega) (by rfl) (by rfl) (by rfl) (fun _ => by rfl) ?_
  intro h' tk' K
  show wpAny _ _ (handedOut v) _ _ _
  rw [handedOut_of hv]
  exact wpAny_pure (h h' tk' K)
/-- the static method read as a field -/
theorem p_minq (B : Bs w s.heap) (H : PI w s.heap x dx es n) (hl : getL (Str.ofString "_CountMinSketch__min_query") es = some none) (h : Q (.ref 221) { s with toks := s.toks + 1 }) :
    wpAny (model PG w) A (getAttr (.ref x) (Str.ofString "_CountMinSketch__min_query") b) Q E s := by
  have hg : plainGet (KK w) 321 (Str.ofString "_CountMinSketch__min_query") = true := by kernel_rfl
  refine get_bind B.X H.inst (plainGet_of hg).1 (findObj_fn (hh_has w) (show findIn (KK w) (.ref 321) (Str.ofString "_CountMinSketch__min_query") = some (some (.ref 223)) by kernel_rfl) (show specialIn (KK w) (.ref 223) "__get__" = some (some (.builtin "staticmethod.__get__")) by kernel_rfl) (by kernel_rfl) (by decide +kernel) (by show lookIn _ (dictOf es n) = _; rw [lookIn_dict, hl])) (plainGet_of hg).2
    (wpAny_call (sm_get (s := { s with toks := s.toks + 1 }) (f := .ref 221) (rest := _) B.X (by rfl) ?_))
  exact handed_on rfl h
end
end

-- K2
section
abbrev cmsEs (w : World) (k : Nat → Tok) (vW vD vE vQ vB vH : Value) : List DictEntry :=
  [en w (Str.ofString "_CountMinSketch__width") (k 0) vW, en w (Str.ofString "_CountMinSketch__depth") (k 1) vD, en w (Str.ofString "_CountMinSketch__elements_added") (k 2) vE, en w (Str.ofString "_CountMinSketch__query_method") (k 3) vQ, en w (Str.ofString "_bins") (k 4) vB, en w (Str.ofString "_hash_function") (k 5) vH]
theorem rep_zeros (t : Tok) : ∀ n, IntsAre (List.replicate n [Value.int 0 t]).flatten (List.replicate n 0)
  | 0 => .nil
  | n + 1 => by rw [List.replicate_succ, List.flatten_cons, List.replicate_succ]; exact .cons 0 t (rep_zeros t n)
theorem bins_zero {W D : Nat} : binsOf W D (fun _ _ => 0) = List.replicate (W * D) 0 := by
  unfold binsOf
  rw [List.map_const', List.length_range]
section
variable {w : World} {A : Around} {E : Value → Shared → Prop} {s : Shared} {x dx hf : Addr} {Q : Value → Shared → Prop} {W D : Nat} {tW tD : Tok} {g₀ : Heap}
set_option maxHeartbeats 4000000 in
theorem cms_init_code {R : Result → Shared → Prop} (B : Bs w g₀) (hg : ∀ b o, g₀.get? b = some o → s.heap.get? b = some o) (hdx : g₀.get? dx = none) (hxd : x ≠ dx) (I : PI w s.heap x dx [] 0)
    (hW0 : 0 < W) (hD0 : 0 < D) (hWs : W ≤ 8) (hDs : D ≤ 8) (hroom : A.depth < 800) (hhd : A.handled = none)
    (h : ∀ h' tk' k t0 bl bys tW' tD', Kp [dx] s.heap h' → h'.get? dx = some (dictOf (cmsEs w k (.int (W : Int) tW') (.int (D : Int) tD') (.int 0 t0) (.ref 221) (.ref bl) (.ref hf)) 6) → s.heap.get? bl = none → h'.IsList bl bys.toArray → IntsAre bys (binsOf W D fun _ _ => 0) →
      R (.ok (.ret .none)) { s with heap := h', toks := tk' }) :
    codeAny (model PG w) A (.call (.ref 102) ⟨[.ref x, .int (W : Int) tW, .int (D : Int) tD, .ref hf], []⟩) R s := by
  refine call_K [(dx, dictOf [] 0)] (fun p hp => ?_) (B.keeps hg) (by rfl) (by rfl) (by show A.depth < 1000; omega) (binds := [("self", .ref x), ("width", .int (W : Int) tW), ("depth", .int (D : Int) tD), ("hash_function", .ref hf)]) (binds_K (B.keeps hg).X (by rfl) (by rfl) (by rfl) (by rfl) (by rfl)) (locs (by rfl)) ?_ (by decide)
  · rw [List.mem_singleton.mp hp]; exact I.dict
  intro g L h₁ F N K hWL hL
  have Kg : ∀ b o, s.heap.get? b = some o → b ≠ dx → g.get? b = some o := fun b o e n1 => K _ _ e (by simp [n1])
  have Bg : Bs w g := B.keeps fun b o e => Kg _ _ (hg _ _ e) (fun q => by rw [q, hdx] at e; cases e)
  have Ix : g.get? x = some (instObj 321 dx) := Kg _ _ I.at_ hxd
  have gdx : g.get? dx = none := (N _ (.head _)).2.2
  have nil : ∀ p ∈ ([] : List (Addr × Obj)), p.1 ≠ dx := fun _ h => nomatch h
  -- self.__width = 0
  walk_at "go"
  refine plainObj_wpAny_Assign_Attribute ?_ (by with_unfolding_all rfl)
  walk_at "goes"
  refine ps_new (own := []) (rest := []) (by kernel_rfl) (by kernel_rfl) (by kernel_rfl) (by simp) F Bg N Ix nil nil ?_
  intro h1 k0 F1 N1
  replace N1 : ∃ t, News g L h1 [(dx, dictOf [en w (Str.ofString "_CountMinSketch__width") k0 (.int 0 t)] 1)] := ⟨_, N1⟩
  obtain ⟨t1, N1⟩ := N1
  refine cut_state (s := s) (h := h1) ?_
  intro tk1
  walk_at "go"
  refine plainObj_wpAny_Assign_Attribute ?_ (by with_unfolding_all rfl)
  walk_at "goes"
  refine ps_new (own := []) (rest := []) (by kernel_rfl) (by kernel_rfl) (by kernel_rfl) (by simp) F1 Bg N1 Ix nil nil ?_
  intro h2 k1 F2 N2
  replace N2 : ∃ t, News g L h2 [(dx, dictOf [en w (Str.ofString "_CountMinSketch__width") k0 (.int 0 t1), en w (Str.ofString "_CountMinSketch__depth") k1 (.int 0 t)] 2)] := ⟨_, N2⟩
  obtain ⟨t2, N2⟩ := N2
  refine cut_state (s := s) (h := h2) ?_
  intro tk2
  walk_at "go"
  refine plainObj_wpAny_Assign_Attribute ?_ (by with_unfolding_all rfl)
  walk_at "goes"
  refine ps_new (own := []) (rest := []) (by kernel_rfl) (by kernel_rfl) (by kernel_rfl) (by simp) F2 Bg N2 Ix nil nil ?_
  intro h3 k2 F3 N3
  replace N3 : ∃ t, News g L h3 [(dx, dictOf [en w (Str.ofString "_CountMinSketch__width") k0 (.int 0 t1), en w (Str.ofString "_CountMinSketch__depth") k1 (.int 0 t2), en w (Str.ofString "_CountMinSketch__elements_added") k2 (.int 0 t)] 3)] := ⟨_, N3⟩
  obtain ⟨t3, N3⟩ := N3
  refine cut_state (s := s) (h := h3) ?_
  intro tk3
  walk_at "go"
  refine plainObj_wpAny_Assign_Attribute ?_ (by with_unfolding_all rfl)
  walk_at "goes"
  refine p_minq (Bg.keeps F3.keep) ⟨F3.keep _ _ Ix, (N3 _ (.head _)).1⟩ (by kernel_rfl) ?_
  walk_at "goes"
  refine ps_new (own := []) (rest := []) (by kernel_rfl) (by kernel_rfl) (by kernel_rfl) (by simp) F3 Bg N3 Ix nil nil ?_
  intro h4 k3 F4 N4
  replace N4 : News g L h4 [(dx, dictOf [en w (Str.ofString "_CountMinSketch__width") k0 (.int 0 t1), en w (Str.ofString "_CountMinSketch__depth") k1 (.int 0 t2), en w (Str.ofString "_CountMinSketch__elements_added") k2 (.int 0 t3), en w (Str.ofString "_CountMinSketch__query_method") k3 (.ref 221)] 4)] := N4
  refine cut_state (s := s) (h := h4) ?_
  intro tk4
  -- the checks
  walk_at "go"
  refine wpAny_If ?_
  refine isTrue_and ?_
  walk_at "goes"
  refine isnot_int_none ?_
  walk_at "goes"
  refine isTrue_and ?_
  walk_at "goes"
  refine isnot_int_none ?_
  walk_at "goes"
  refine isTrue_and_nil ?_
  walk_at "goes"
  refine BoolOp_and ?_
  walk_at "goes"
  refine b_isinstance F4 Bg ?_ (by rfl) (by rfl)
  walk_at "goes"
  refine Tuple_ ?_
  walk_at "goes"
  refine b_int F4 Bg ?_ (by rfl) (by rfl)
  walk_at "goes"
  refine b_float F4 Bg ?_ (by rfl) (by rfl)
  walk_at "goes"
  refine b_complex F4 Bg ?_ (by rfl) (by rfl)
  walk_at "goes"
  refine newTuple_N F4 N4 ?_ (by rw [sizeLine_eq]; simp)
  intro h5 F5 N5
  have nt5 := (N5 _ (.head _)).1
  replace N5 : News g L h5 [(dx, dictOf [en w (Str.ofString "_CountMinSketch__width") k0 (.int 0 t1), en w (Str.ofString "_CountMinSketch__depth") k1 (.int 0 t2), en w (Str.ofString "_CountMinSketch__elements_added") k2 (.int 0 t3), en w (Str.ofString "_CountMinSketch__query_method") k3 (.ref 221)] 4)] := fun p hp => N5 p (.tail _ hp)
  walk_at "goes"
  refine kia_tup (K := KK w) kitx_int (Bg.X.keeps F5.keep) trivial nt5 (show kitAny (KK w) (.type "int") [.type "int", .type "float", .type "complex"] = some true by kernel_rfl) (by intro e; cases e) ?_
  intro tk5
  refine cut_state (s := s) (h := h5) ?_
  intro tk5
  walk_at "goes"
  refine BoolOp_and ?_
  walk_at "goes"
  refine gt_T (by omega) ?_
  walk_at "goes"
  refine BoolOp_and ?_
  walk_at "goes"
  refine b_isinstance F5 Bg ?_ (by rfl) (by rfl)
  walk_at "goes"
  refine Tuple_ ?_
  walk_at "goes"
  refine b_int F5 Bg ?_ (by rfl) (by rfl)
  walk_at "goes"
  refine b_float F5 Bg ?_ (by rfl) (by rfl)
  walk_at "goes"
  refine b_complex F5 Bg ?_ (by rfl) (by rfl)
  walk_at "goes"
  refine newTuple_N F5 N5 ?_ (by rw [sizeLine_eq]; simp)
  intro h6 F6 N6
  have nt6 := (N6 _ (.head _)).1
  replace N6 : News g L h6 [(dx, dictOf [en w (Str.ofString "_CountMinSketch__width") k0 (.int 0 t1), en w (Str.ofString "_CountMinSketch__depth") k1 (.int 0 t2), en w (Str.ofString "_CountMinSketch__elements_added") k2 (.int 0 t3), en w (Str.ofString "_CountMinSketch__query_method") k3 (.ref 221)] 4)] := fun p hp => N6 p (.tail _ hp)
  walk_at "goes"
  refine kia_tup (K := KK w) kitx_int (Bg.X.keeps F6.keep) trivial nt6 (show kitAny (KK w) (.type "int") [.type "int", .type "float", .type "complex"] = some true by kernel_rfl) (by intro e; cases e) ?_
  intro tk6
  refine cut_state (s := s) (h := h6) ?_
  intro tk6
  walk_at "goes"
  refine BoolOp_one ?_
  walk_at "goes"
  refine gt_T (by omega) ?_
  walk_at "goes"
  refine storeX_L F6 N6 ?_ (by rfl) (by rfl)
  intro h7 F7 N7
  refine cut_state (s := s) (h := h7) ?_
  intro tk7
  walk_at "go"
  refine wpAny_If ?_
  refine isTrue_not ?_
  refine isTrue_plain ?_ (by with_unfolding_all rfl)
  walk_at "goes"
  refine iteFb ?_
  walk_at "goes"
  refine plainObj_wpAny_Assign_Attribute ?_ (by with_unfolding_all rfl)
  walk_at "goes"
  refine b_int F7 Bg ?_ (by rfl) (by rfl)
  walk_at "goes"
  refine call_int_int ?_
  walk_at "goes"
  refine ps_old (own := []) (rest := []) (es' := [en w (Str.ofString "_CountMinSketch__width") k0 (.int (W : Int) tW), en w (Str.ofString "_CountMinSketch__depth") k1 (.int 0 t2), en w (Str.ofString "_CountMinSketch__elements_added") k2 (.int 0 t3), en w (Str.ofString "_CountMinSketch__query_method") k3 (.ref 221)]) (by kernel_rfl) (by kernel_rfl) (by kernel_rfl) (by intro _; kernel_rfl) (by simp) F7 Bg N7 Ix nil nil ?_
  intro h8 F8 N8
  refine cut_state (s := s) (h := h8) ?_
  intro tk8
  walk_at "go"
  refine plainObj_wpAny_Assign_Attribute ?_ (by with_unfolding_all rfl)
  walk_at "goes"
  refine b_int F8 Bg ?_ (by rfl) (by rfl)
  walk_at "goes"
  refine call_int_int ?_
  walk_at "goes"
  refine ps_old (own := []) (rest := []) (es' := [en w (Str.ofString "_CountMinSketch__width") k0 (.int (W : Int) tW), en w (Str.ofString "_CountMinSketch__depth") k1 (.int (D : Int) tD), en w (Str.ofString "_CountMinSketch__elements_added") k2 (.int 0 t3), en w (Str.ofString "_CountMinSketch__query_method") k3 (.ref 221)]) (by kernel_rfl) (by kernel_rfl) (by kernel_rfl) (by intro _; kernel_rfl) (by simp) F8 Bg N8 Ix nil nil ?_
  intro h9 F9 N9
  refine cut_state (s := s) (h := h9) ?_
  intro tk9
  walk_at "goes"
  refine plainObj_wpAny_Assign_Attribute ?_ (by with_unfolding_all rfl)
  walk_at "goes"
  refine List_ ?_
  walk_at "goes"
  refine newList_N F9 N9 ?_ (by rw [sizeLine_eq]; simp)
  intro h10 F10 N10
  walk_at "goes"
  refine pp_width (v := .int (W : Int) tW) (Bg.keeps F10.keep) ⟨F10.keep _ _ Ix, (N10 _ (.tail _ (.head _))).1⟩ (by show A.depth + 1 < 890; omega) (by kernel_rfl) ?_
  intro h11 tk11 K11
  have F11 := F10.keeps K11.all
  have N11 := N10.grown K11.all
  walk_at "goes"
  refine pp_depth (v := .int (D : Int) tD) (Bg.keeps F11.keep) ⟨F11.keep _ _ Ix, (N11 _ (.tail _ (.head _))).1⟩ (by show A.depth + 1 < 890; omega) (by kernel_rfl) ?_
  intro h12 tk12 K12
  have F12 := F11.keeps K12.all
  have N12 := N11.grown K12.all
  refine mul_int ?_ (mul_ok hDs)
  have hWD : W * D ≤ 8 * 8 := Nat.mul_le_mul hWs hDs
  have hWDn : ((W : Int) * (D : Int)).toNat = W * D := by rw [← Int.natCast_mul, Int.toNat_natCast]
  have hWDi : (W : Int) * (D : Int) ≤ 64 := by rw [← Int.natCast_mul]; omega
  have hWD0 : 0 ≤ (W : Int) * (D : Int) := by rw [← Int.natCast_mul]; omega
  refine mul_list_is F12 N12 (vs := [.int 0 _]) ⟨_, (N12 _ (.head _)).1, rfl, _, rfl⟩ (.cons (.int 0 _) .nil) (by omega) (by omega) (by rw [hWDn, List.length_singleton]; omega) ?_
  intro h13 F13 N13 hfresh hL13 hC13
  obtain ⟨ob, hob, hobc, kb, hobd⟩ := hL13
  rw [hWDn] at hobd
  have nobl : ∀ b o, h12.get? b = some o → b ≠ h12.objs.size := fun b o e => Nat.ne_of_lt (Heap.lt_size e)
  have hdxb : dx ≠ h12.objs.size := nobl _ _ (N12 _ (.tail _ (.head _))).1
  have hLb : h12.objs.size ≠ L := Ne.symm (Nat.ne_of_lt F12.ns.lt)
  have sfr : s.heap.get? h12.objs.size = none := by
    cases q : s.heap.get? h12.objs.size with
    | none => rfl
    | some o => exact absurd rfl (nobl _ _ (F12.keep _ _ (Kg _ _ q (Ne.symm hdxb))))
  replace N13 := show News g L h13 [(h12.objs.size, ob), (dx, dictOf [en w (Str.ofString "_CountMinSketch__width") k0 (.int (W : Int) tW), en w (Str.ofString "_CountMinSketch__depth") k1 (.int (D : Int) tD), en w (Str.ofString "_CountMinSketch__elements_added") k2 (.int 0 t3), en w (Str.ofString "_CountMinSketch__query_method") k3 (.ref 221)] 4)] from fun p hp => by
    rcases List.mem_cons.mp hp with rfl | hp
    · exact ⟨hob, hLb, hfresh⟩
    · exact N13 p (.tail _ hp)
  generalize hbl : h12.objs.size = bl at *
  have obl : ∀ p ∈ [(bl, ob)], p.1 ≠ dx := fun p hp => by rw [List.mem_singleton.mp hp]; exact Ne.symm hdxb
  have fin0 : ∀ t, IntsAre (List.replicate (W * D) [Value.int 0 t]).flatten (binsOf W D fun _ _ => 0) := fun t => by rw [bins_zero]; exact rep_zeros t _
  walk_at "goes"
  refine ps_new (own := [(bl, ob)]) (rest := []) (by kernel_rfl) (by kernel_rfl) (by kernel_rfl) (by simp) F13 Bg N13 Ix obl nil ?_
  intro h14 k4 F14 N14
  replace N14 := show News g L h14 [(bl, ob), (dx, dictOf [en w (Str.ofString "_CountMinSketch__width") k0 (.int (W : Int) tW), en w (Str.ofString "_CountMinSketch__depth") k1 (.int (D : Int) tD), en w (Str.ofString "_CountMinSketch__elements_added") k2 (.int 0 t3), en w (Str.ofString "_CountMinSketch__query_method") k3 (.ref 221), en w (Str.ofString "_bins") k4 (.ref bl)] 5)] from N14
  refine cut_state (s := s) (h := h14) ?_
  intro tk14
  walk_at "goes"
  refine is_ref_none ?_
  walk_at "goes"
  refine plainObj_wpAny_Assign_Attribute ?_ (by with_unfolding_all rfl)
  walk_at "goes"
  refine ps_new (own := [(bl, ob)]) (rest := []) (by kernel_rfl) (by kernel_rfl) (by kernel_rfl) (by simp) F14 Bg N14 Ix obl nil ?_
  intro h15 k5 F15 N15
  walk_at "goes"
  exact h h15 _ (fun i => match i with | 0 => k0 | 1 => k1 | 2 => k2 | 3 => k3 | 4 => k4 | _ => k5) t3 bl _ tW tD (fun b o e n => F15.keep _ _ (Kg _ _ e (fun q => n (q ▸ .head _)))) (N15 _ (.tail _ (.head _))).1 sfr ⟨ob, (N15 _ (.head _)).1, hobc, kb, hobd⟩ (fin0 _)
end
end

-- K3
section
section
variable {w : World} {A : Around} {E : Value → Shared → Prop} {s : Shared} {x dx hf : Addr} {Q : Value → Shared → Prop} {W D P : Nat} {tW tD tP : Tok} {g₀ : Heap}
set_option maxHeartbeats 4000000 in
theorem hh_init_code {R : Result → Shared → Prop} (B : Bs w g₀) (hg : ∀ b o, g₀.get? b = some o → s.heap.get? b = some o) (hdx : g₀.get? dx = none) (hxd : x ≠ dx) (I : PI w s.heap x dx [] 0)
    (hW0 : 0 < W) (hD0 : 0 < D) (hWs : W ≤ 8) (hDs : D ≤ 8) (hroom : A.depth < 700) (hhd : A.handled = none)
    (h : ∀ h' tk' bl td, Kp [dx] s.heap h' → s.heap.get? bl = none → s.heap.get? td = none → bl ≠ td → (td == sysModules) = false → HH w h' x dx bl td hf W D P (fun _ _ => 0) 0 [] 0 →
      R (.ok (.ret .none)) { s with heap := h', toks := tk' }) :
    codeAny (model PG w) A (.call (.ref 262) ⟨[.ref x, .int (P : Int) tP, .int (W : Int) tW, .int (D : Int) tD, .ref hf], []⟩) R s := by
  refine call_KS [(dx, dictOf [] 0)] (fun p hp => ?_) (B.keeps hg) (by rfl) (by rfl) (by show A.depth < 1000; omega) (binds := [("self", .ref x), ("num_hitters", .int (P : Int) tP), ("width", .int (W : Int) tW), ("depth", .int (D : Int) tD), ("hash_function", .ref hf)]) (binds_K (B.keeps hg).X (by rfl) (by rfl) (by rfl) (by rfl) (by rfl)) (locs (by rfl)) ?_ (by decide)
  · rw [List.mem_singleton.mp hp]; exact I.dict
  intro g L h₁ F N K hWL hL
  have Kg : ∀ b o, s.heap.get? b = some o → b ≠ dx → g.get? b = some o := fun b o e n1 => K _ _ e (by simp [n1])
  have Bg : Bs w g := B.keeps fun b o e => Kg _ _ (hg _ _ e) (fun q => by rw [q, hdx] at e; cases e)
  have Ix : g.get? x = some (instObj 321 dx) := Kg _ _ I.at_ hxd
  have gdx : g.get? dx = none := (N _ (.head _)).2.2
  refine ks_wpAt_execs_cons ?_
  refine ks_wpAt_Expr_any ?_ (by with_unfolding_all rfl) (by with_unfolding_all rfl)
  refine super_K (f2 := 102) F Bg N Ix (.head _) (by rfl) (by rfl) (by rfl) (by rfl) (by rfl) (by first | rfl | decide +kernel) (by decide) (by rfl) (by rfl) (by rfl) (by rfl) (by kernel_rfl) (by kernel_rfl) ?_ (by with_unfolding_all rfl)
  intro so qa h2 F2 N2
  refine callWith_M Bg.X N2 (.head _) (by kernel_rfl) ?_ (by with_unfolding_all rfl) (by with_unfolding_all rfl)
  walk_at "goes"
  refine ⟨methP N2 (.head _) (Bg.X.keeps F2.keep), ?_⟩
  refine call_meth N2 (.head _) ?_
  refine cms_init_code (g₀ := g) Bg F2.keep gdx hxd ⟨F2.keep _ _ Ix, (N2 _ (.tail _ (.tail _ (.head _)))).1⟩ hW0 hD0 hWs hDs (by show A.depth + 1 < 800; omega) hhd ?_
  intro h3 tk3 k t0 bl bys tW3 tD3 K3 e3 hbl3 hL3 hi3
  obtain ⟨ob3, hob3, hob3c, kb3, hob3d⟩ := hL3
  have F3 := fr_kp F2 K3 (fun a ha => by rw [List.mem_singleton.mp ha]; exact ⟨Ne.symm (N _ (.head _)).2.1, gdx⟩)
  have hbl3' : h2.get? bl = none := hbl3
  have gbl : g.get? bl = none := none_of_up' F2.keep hbl3'
  have hLbl : bl ≠ L := by
    intro q
    obtain ⟨oL, _, _, e, _⟩ := F2.ns
    rw [q, e] at hbl3'; cases hbl3'
  have hdxbl : dx ≠ bl := by
    intro q
    have := (N2 _ (.tail _ (.tail _ (.head _)))).1
    rw [show (dx, dictOf [] 0).1 = bl from q] at this
    rw [this] at hbl3'; cases hbl3'
  have N3 : News g L h3 [(dx, dictOf (cmsEs w k (.int (W : Int) tW3) (.int (D : Int) tD3) (.int 0 t0) (.ref 221) (.ref bl) (.ref hf)) 6), (bl, ob3)] := fun p hp => by
    rcases List.mem_cons.mp hp with rfl | hp
    · exact ⟨e3, (N _ (.head _)).2⟩
    · rw [List.mem_singleton.mp hp]; exact ⟨hob3, hLbl, gbl⟩
  refine _root_.PySem.wpAt_of_wpAny ?_
  refine cut_state (s := s) (h := h3) ?_
  intro tk3'
  walk_at "go"
  refine plainObj_wpAny_Assign_Attribute ?_ (by with_unfolding_all rfl)
  refine Dict_empty_made (strKind PG w) PyData.str F3 N3 (modules_low Bg.nolimit) ?_
  intro h4 o4 F4 N4 lo4 hd4 _ ap4
  generalize htd : h3.objs.size = td at *
  have o1 : ∀ p ∈ [(td, o4)], p.1 ≠ dx := fun p hp => by rw [List.mem_singleton.mp hp]; exact Ne.symm (ap4 _ (.head _))
  have r1 : ∀ p ∈ [(bl, ob3)], p.1 ≠ dx := fun p hp => by rw [List.mem_singleton.mp hp]; exact Ne.symm hdxbl
  walk_at "goes"
  refine ps_new (own := [(td, o4)]) (rest := [(bl, ob3)]) (by kernel_rfl) (by kernel_rfl) (by kernel_rfl) (by simp) F4 Bg N4 Ix o1 r1 ?_
  intro h5 k5 F5 N5
  refine cut_state (s := s) (h := h5) ?_
  intro tk5
  walk_at "go"
  refine plainObj_wpAny_Assign_Attribute ?_ (by with_unfolding_all rfl)
  walk_at "goes"
  refine ps_new (own := [(td, o4)]) (rest := [(bl, ob3)]) (by kernel_rfl) (by kernel_rfl) (by kernel_rfl) (by simp) F5 Bg N5 Ix o1 r1 ?_
  intro h6 k6 F6 N6
  refine cut_state (s := s) (h := h6) ?_
  intro tk6
  walk_at "go"
  refine plainObj_wpAny_Assign_Attribute ?_ (by with_unfolding_all rfl)
  walk_at "goes"
  refine ps_new (own := [(td, o4)]) (rest := [(bl, ob3)]) (by kernel_rfl) (by kernel_rfl) (by kernel_rfl) (by simp) F6 Bg N6 Ix o1 r1 ?_
  intro h7 k7 F7 N7
  refine cut_state (s := s) (h := h7) ?_
  intro tk7
  walk_at "go"
  refine plainObj_wpAny_Assign_Attribute ?_ (by with_unfolding_all rfl)
  walk_at "goes"
  refine ps_new (own := [(td, o4)]) (rest := [(bl, ob3)]) (by kernel_rfl) (by kernel_rfl) (by kernel_rfl) (by simp) F7 Bg N7 Ix o1 r1 ?_
  intro h8 k8 F8 N8
  walk_at "goes"
  have g3 : h3.get? td = none := by rw [← htd]; exact get?_none_ge (Nat.le_refl _)
  have sfr : ∀ a, g.get? a = none → dx ≠ a → s.heap.get? a = none := fun a ga na => by
    cases q : s.heap.get? a with
    | none => rfl
    | some o => rw [Kg _ _ q (Ne.symm na)] at ga; cases ga
  refine h h8 _ bl td (fun b o e n => F8.keep _ _ (Kg _ _ e (fun q => n (q ▸ .head _)))) (sfr _ gbl hdxbl) (sfr _ (none_of_up' F3.keep g3) (ap4 _ (.head _))) (ap4 _ (.tail _ (.head _))) lo4 ?_
  exact ⟨⟨fun i => match i with | 6 => k5 | 7 => k6 | 8 => k7 | 9 => k8 | i => k i, .int (W : Int) tW3, .int (D : Int) tD3, .int 0 t0, .ref 221, .ref bl, .ref hf, .ref td, .int 0 _, .int (P : Int) tP, .int 0 _⟩, bys, [], tW3, tD3, t0, _, tP, _,
    ⟨⟨F8.keep _ _ Ix, (N8 _ (.tail _ (.head _))).1⟩, rfl, rfl, rfl, rfl, rfl, rfl, rfl, rfl, rfl, rfl, ⟨ob3, (N8 _ (.tail _ (.tail _ (.head _)))).1, hob3c, kb3, hob3d⟩, hi3, Heap.dictOf_iff.mpr ⟨o4, (N8 _ (.head _)).1, hd4⟩, .nil⟩⟩
/-- HeavyHitters(...) -/
theorem hh_make (B : Bs w s.heap) (hW0 : 0 < W) (hD0 : 0 < D) (hWs : W ≤ 8) (hDs : D ≤ 8) (hroom : A.depth < 600) (hhd : A.handled = none)
    (h : ∀ h' tk' x dx bl td, Kp [] s.heap h' → s.heap.get? x = none → s.heap.get? dx = none → s.heap.get? bl = none → s.heap.get? td = none → x ≠ dx → x ≠ bl → x ≠ td → dx ≠ bl → dx ≠ td → bl ≠ td → (td == sysModules) = false → HH w h' x dx bl td hf W D P (fun _ _ => 0) 0 [] 0 →
      Q (.ref x) { s with heap := h', toks := tk' }) :
    wpAny (model PG w) A (call (.ref 321) [.int (P : Int) tP, .int (W : Int) tW, .int (D : Int) tD, .ref hf]) Q E s := by
  refine wpAny_call ?_
  obtain ⟨hh, g, d, t, os⟩ := s
  have up : ∀ b o, hh.get? b = some o → ((hh.push emptyDict).push (instObj 321 hh.objs.size)).get? b = some o := fun b o e => Heap.get?_push_of_some _ (Heap.get?_push_of_some _ e)
  have z0 : hh.get? hh.objs.size = none := get?_none_ge (Nat.le_refl _)
  have z1 : hh.get? (hh.objs.size + 1) = none := get?_none_ge (Nat.le_succ _)
  have ed : ((hh.push emptyDict).push (instObj 321 hh.objs.size)).get? hh.objs.size = some (dictOf [] 0) := Heap.get?_push_of_some _ (Heap.get?_push_size _ rfl)
  have ex : ((hh.push emptyDict).push (instObj 321 hh.objs.size)).get? (hh.objs.size + 1) = some (instObj 321 hh.objs.size) := by heap_get
  refine make_core (makes_of B.X (by kernel_rfl)) (looks_findIn B.X (show findIn (KK w) (.ref 321) "__init__" = some (some (.ref 262)) by kernel_rfl)) (fun self => bind_fn B.X self (by kernel_rfl)) (.inl rfl) ?_
  refine hh_init_code (g₀ := hh) B up z0 (Nat.succ_ne_self _) ⟨ex, ed⟩ hW0 hD0 hWs hDs (by show A.depth + 1 < 700; omega) hhd ?_
  intro h' tk' bl td K hbl htd hbt lo S
  refine ⟨rfl, ?_⟩
  have nb := none_of_up up hbl
  have nt := none_of_up up htd
  have hbl' : ((hh.push emptyDict).push (instObj 321 hh.objs.size)).get? bl = none := hbl
  have htd' : ((hh.push emptyDict).push (instObj 321 hh.objs.size)).get? td = none := htd
  exact h h' tk' (hh.objs.size + 1) hh.objs.size bl td (fun b o e _ => K _ _ (up _ _ e) (fun q => by rw [List.mem_singleton.mp q, z0] at e; cases e)) z1 z0 nb nt (Nat.succ_ne_self _)
    (Ne.symm (ne_none ex hbl')) (Ne.symm (ne_none ex htd')) (Ne.symm (ne_none ed hbl')) (Ne.symm (ne_none ed htd')) hbt lo S
end
end

-- L1
section
/-- the number that the script gives at a place -/
def numAt (ns : List Int) (p : Nat) : Nat := if p < ns.length then (Int.fmod (ns.getD p 0) 1000003).toNat else p * 53 + 7
theorem numAt_in {ns : List Int} {p : Nat} {k : Int} (e : ns[p]? = some k) : ((numAt ns p : Nat) : Int) = Int.fmod k 1000003 := by
  have hp : p < ns.length := (List.getElem?_eq_some_iff.mp e).1
  have hk : ns.getD p 0 = k := by simp [List.getD, e]
  unfold numAt
  rw [if_pos hp, hk]
  exact Int.toNat_of_nonneg (Int.fmod_nonneg_of_pos k (by decide))
theorem numAt_out {ns : List Int} {p : Nat} (e : ¬ p < ns.length) : numAt ns p = p * 53 + 7 := by unfold numAt; rw [if_neg e]
theorem numAt_le {ns : List Int} {p : Nat} (hp : p ≤ 63) : numAt ns p < 1000003 := by
  by_cases h : p < ns.length
  · have := numAt_in (List.getElem?_eq_getElem h)
    have h2 := Int.fmod_lt_of_pos ns[p] (show (0 : Int) < 1000003 by decide)
    omega
  · rw [numAt_out h]; omega
section
variable {w : World} {A : Around} {E : Value → Shared → Prop} {s : Shared} {Q : Value → Shared → Prop}
theorem number_spec {sl : Addr} {svs : List Value} {ns : List Int} {p : Nat} {tp : Tok} (B : Bs w s.heap) (hl : s.heap.IsList sl svs.toArray) (hi : IntsAre svs ns) (hn : ns.length ≤ 63) (hp : p ≤ 63) (hroom : A.depth < 850)
    (h : ∀ h' tk' t, Kp [] s.heap h' → Q (.int ((numAt ns p : Nat) : Int) t) { s with heap := h', toks := tk' }) : wpAny (model PG w) A (call (.ref 338) [.ref sl, .int (p : Int) tp]) Q E s := by
  refine wpAny_call ?_
  refine call_K [] (fun _ h => nomatch h) B (by rfl) (by rfl) (by show A.depth < 1000; omega) (binds := [("script", .ref sl), ("place", .int (p : Int) tp)]) (.of_eq (by rfl)) (locs (by rfl)) ?_ (by decide)
  intro g L h₁ F N K _ hL
  have Kg : ∀ b o, s.heap.get? b = some o → g.get? b = some o := fun b o e => K _ _ e (by simp)
  have Bg := B.keeps Kg
  have up : ∀ b o, s.heap.get? b = some o → h₁.get? b = some o := fun b o e => F.keep _ _ (Kg _ _ e)
  have hl1 := isList_keeps hl up
  have hlen := hi.length
  walk_at "goes"
  refine b_len F Bg ?_ (by rfl) (by rfl)
  walk_at "goes"
  refine call_len_list hl1 (by rw [List.size_toArray]; omega) ?_
  rw [List.size_toArray, hlen]
  by_cases hlt : p < ns.length
  · refine lt_T (by omega) ?_
    walk_at "goes"
    obtain ⟨t, hx⟩ := hi.get p ns[p] (List.getElem?_eq_getElem hlt)
    refine sub_list hl1 (by omega) (by omega) (by rw [Int.toNat_natCast]; exact hx) ?_ (by with_unfolding_all rfl)
    walk_at "goes"
    refine mod_int' (by decide) ?_
    walk_at "goes"
    rw [← numAt_in (List.getElem?_eq_getElem hlt)]
    exact h _ _ _ fun b o e _ => up b o e
  · refine lt_F (by omega) ?_
    walk_at "goes"
    refine mul_int ?_ (IntMulOk.of_right (intBits_le_64 (by decide) (by decide)))
    walk_at "goes"
    have := numAt_out hlt
    rw [show (p : Int) * 53 + 7 = ((numAt ns p : Nat) : Int) by rw [this]; push_cast; rfl]
    exact h _ _ _ fun b o e _ => up b o e
end
end

-- L2
section
noncomputable def fdAt (w : World) (a : Addr) : Option FuncData := match (KK w).lookup a with | some ⟨_, _, .func fd, _⟩ => some fd | _ => none
/-- the law's own statements -/
noncomputable def lawSts (w : World) : List Stmt := match fdAt w 343 with | some fd => (match fd.body with | .stmts b => b | _ => []) | none => []
section
variable {w : World} {A : Around} {E : Value → Shared → Prop} {s : Shared} {Q : Value → Shared → Prop}
theorem nameFree {cl : List (Str × Addr)} {cn : Str} {cs : Scope} {L a c : Addr} {ccd v : Value} {x : Str} {pos : Pos} {M : Model} (hc : cl.lookup x = some c) (hv : s.heap.IsCell c (some v)) (h : Q v s)
    (hk : cs.kind = .function) (hx : (envX cn cs L a ccd cl).kindOf x = some .free) (hb : (x == ("__debug__" : Str)) = false) (hn : (x == ("__classdict__" : Str)) = false) :
    wpAny M A (eval (.Name x pos) (envX cn cs L a ccd cl)) Q E s := wpAny_Name (wpAny_loadName_free hk hx hc hv h hn) hb
theorem cN_F {M : Model} {scope : Scope} {cl : List (Str × Addr)} {C c : Addr} {env : Env} {x : Str} {pos : Pos} {v : Value} (hc : cl.lookup x = some c) (hv : s.heap.IsCell c (some v)) (h : Q v s) (hk : (compEnvC scope cl C env).scope.kind = .function) (hx : (compEnvC scope cl C env).kindOf x = some .free) (hb : (x == ("__debug__" : Str)) = false) (hn : (x == ("__classdict__" : Str)) = false) :
    wpAny M A (eval (.Name x pos) (compEnvC scope cl C env)) Q E s := wpAny_Name (wpAny_loadName_free hk hx hc hv h hn) hb
theorem strs_get {vs : List Value} {ys : List Str} (h : StrsAre vs ys) : ∀ {i : Nat} {y : Str}, ys[i]? = some y → ∃ t, vs[i]? = some (.str y t) := by
  induction h with
  | nil => intro i y e; cases i <;> cases e
  | cons y0 t _ ih =>
    intro i y e
    cases i with
    | zero => cases e; exact ⟨t, rfl⟩
    | succ i => exact ih e
theorem strs_at {vs : List Value} {ys : List Str} (h : StrsAre vs ys) : ∀ {i : Nat} {v : Value}, vs[i]? = some v → ∃ y t, ys[i]? = some y ∧ v = .str y t := by
  induction h with
  | nil => intro i y e; cases i <;> cases e
  | cons y0 t _ ih =>
    intro i y e
    cases i with
    | zero => cases e; exact ⟨_, t, rfl, rfl⟩
    | succ i => exact ih e
theorem strs_len {vs : List Value} {ys : List Str} (h : StrsAre vs ys) : vs.length = ys.length := by
  induction h with
  | nil => rfl
  | cons _ _ _ ih => simp [ih]
theorem index_strs {l : Addr} {vs : List Value} {ys : List Str} {k : Str} {t : Tok} {j : Nat} (hl : s.heap.IsList l vs.toArray) (hi : StrsAre vs ys) (hlen : ys.length ≤ 64) (hj : ys[j]? = some k) (hno : ∀ (i : Nat) (y : Str), i < j → ys[i]? = some y → y ≠ k) (h : Q (.int (j : Int) s.toks) { s with toks := s.toks + 1 }) :
    wpAny (model PG w) A (call (.builtin "list.index") [.ref l, .str k t]) Q E s := by
  obtain ⟨⟨cls, dd, data, sl⟩, ho, hc, n, hd⟩ := id hl
  simp only at hc hd
  subst hc hd
  have hvl := strs_len hi
  have hjl : j < ys.length := (List.getElem?_eq_some_iff.mp hj).1
  refine call_meets PySem.F.slot_list_index ⟨_, ho, rfl⟩ PySem.F.entry_list_index (PySem.F.args_list_index_2 _ _)
    (PySem.SeqAt.list_indexAt l vs.toArray n dd sl (.str k t) (isStrOf k) j (by simpa [hvl] using hjl) (by omega) ?_ ?_) ⟨ho, fun y hy => (eq_isStrOf k t hi y (by simpa using hy)).at _ _, h⟩
  · obtain ⟨u, e⟩ := strs_get hi hj
    have : vs[j]'(by omega) = .str k u := (List.getElem?_eq_some_iff.mp e).2
    show isStrOf k (vs.toArray[j]'(by simpa [hvl] using hjl)) = true
    rw [List.getElem_toArray, this]
    simp [isStrOf]
  · intro i hi' hlt
    show isStrOf k vs.toArray[i] = false
    have hil : i < vs.length := by simpa using hi'
    obtain ⟨y, u, e, ev⟩ := strs_at hi (List.getElem?_eq_getElem hil)
    rw [List.getElem_toArray, ev]
    simpa [isStrOf] using hno i y hlt e
theorem index_ints {l : Addr} {vs : List Value} {ys : List Int} {k : Int} {t : Tok} (hl : s.heap.IsList l vs.toArray) (hi : IntsAre vs ys) (hlen : ys.length ≤ 64) (hk : k ∈ ys) (h : Q (.int ((ys.idxOf k : Nat) : Int) s.toks) { s with toks := s.toks + 1 }) :
    wpAny (model PG w) A (call (.builtin "list.index") [.ref l, .int k t]) Q E s := by
  obtain ⟨⟨cls, dd, data, sl⟩, ho, hc, n, hd⟩ := id hl
  simp only at hc hd
  subst hc hd
  have hlen' := hi.length
  have hj : ys.idxOf k < ys.length := List.idxOf_lt_length_iff.mpr hk
  refine call_meets PySem.F.slot_list_index ⟨_, ho, rfl⟩ PySem.F.entry_list_index (PySem.F.args_list_index_2 _ _)
    (PySem.SeqAt.list_indexAt l vs.toArray n dd sl (.int k t) (isInt k) (ys.idxOf k) (by simpa [hlen'] using hj) (by omega) ?_ ?_) ⟨ho, fun y hy => (eq_isInt k t hi y (by simpa using hy)).at _ _, h⟩
  · show isInt k vs[ys.idxOf k] = true
    rw [isInt_at k hi _ (by omega) hj]
    simpa using List.getElem_idxOf hj
  · intro j hjs hlt
    show isInt k vs[j] = false
    rw [isInt_at k hi j (by simpa using hjs) (by omega)]
    exact ne_of_lt_idxOf hlt _
/-- for ... in range(n) within a block of a comprehension -/
theorem csrc_rng {elt : Expr} {x : Str} {px : Pos} {scope : Scope} {cl : List (Str × Addr)} {env : Env} {Fin : Shared → List Addr → Nat → (Nat → Value → List (Addr × Obj) → Prop) → Prop} {n : Nat} {t : Tok} (val : Nat → Value → List (Addr × Obj) → Prop) (hh : A.handled = none) (hn : n ≤ 64)
    (hk : scope.kind = .function) (hx : scope.names.lookup x = some .local)
    (turn : ∀ i t C m₃ h tk (E' : Value → Shared → Prop), i < n → h.Ns C m₃ → m₃ x = some (.int (i : Int) t) → (∀ b o, s.heap.get? b = some o → h.get? b = some o) →
      wpAny (model PG w) A (eval elt (compEnvC scope cl C env)) (EltEnd val i C { s with heap := h, toks := tk }) E' { s with heap := h, toks := tk })
    (fin : ∀ h₁ I tk, s.heap.get? I = none → (∀ b o, s.heap.get? b = some o → h₁.get? b = some o) → Fin { s with heap := h₁, toks := tk } [I] n val) :
    wpAny (model PG w) A (call (.type "range") [.int (n : Int) t]) (fun xv s₁ => wpAny (model PG w) A (pyIter xv) (fun it s₂ => CSrc PG w A (.Name x px) elt scope cl env Fin it s₂) E s₁) E s := by
  refine call_range_1 ?_
  have up : ∀ b o, s.heap.get? b = some o → (s.heap.push { cls := .type "range", data := .fields #[.int 0 s.toks, .int (n : Int) t, .int 1 (s.toks + 1)] }).get? b = some o := fun b o e => Heap.get?_push_of_some _ e
  refine csrc_range (n := n) val hh (IsRange.new _ _ _ _ _ _ _) (small_one (by omega) (by omega) (by omega) (by omega)) (by rw [rangeSize_nat]; omega) (by rw [sizeLine_eq]; omega) hk hx ?_ ?_
  · intro i t C m₃ h tk E' hi hn hm k
    refine wpAny_mono (turn i t C m₃ h tk E' hi hn (by rw [hm]; simp) fun b o e => k b o (up b o e)) (fun y s' h' => h') fun _ _ e => e
  · intro h₁ k
    refine fin h₁ _ _ ?_ fun b o e => k b o (up b o e)
    exact none_of_up up (get?_none_ge (Nat.le_refl _))
end
end

-- L3
section
section
variable {w : World} {A : Around} {E : Value → Shared → Prop} {s : Shared} {Q : Value → Shared → Prop}
set_option maxHeartbeats 4000000 in
theorem reading_spec {nm nm2 qual : Str} {params : Arguments} {body : List Stmt} {scope : Scope} {pos : Pos} (hst : (lawSts w)[5]? = some (.FunctionDef nm params body [] none [] scope none nm2 pos))
    {H : Heap} {hf wl cl c5 c6 c7 c8 lk : Addr} {fo : Obj} {doc pm cdv ctv : Value} {W D k kk : Nat} {tW tD : Tok} {wvs cvs lvs : List Value} {wds : List Str} {key : Str} {cs : Nat → Nat}
    (B : Bs w H) (hfo : H.get? hf = some fo) (hfd : ∃ oc od sl, fo = ⟨oc, od, .func (fnX nm qual params body scope [(Str.ofString "words", c8), (Str.ofString "width", c7), (Str.ofString "depth", c6), (Str.ofString "columns", c5)] .none .none doc pm none cdv ctv), sl⟩) (hcd : H.CodeRec cdv qual)
    (h8 : H.IsCell c8 (some (.ref wl))) (h7 : H.IsCell c7 (some (.int (W : Int) tW))) (h6 : H.IsCell c6 (some (.int (D : Int) tD))) (h5 : H.IsCell c5 (some (.ref cl)))
    (hwl : H.get? wl = some ⟨.type "list", none, .seq wvs.toArray kk, #[]⟩) (hws : StrsAre wvs wds) (hcl : H.IsList cl cvs.toArray) (hcv : cvs[k]? = some (.ref lk)) (hlk : H.IsList lk lvs.toArray) (hli : IntsAre lvs ((List.range D).map fun r => ((cs r : Nat) : Int)))
    (hk : wds[k]? = some key) (hno : ∀ (i : Nat) (y : Str), i < k → wds[i]? = some y → y ≠ key) (hwn : wds.length ≤ 64) (hWs : W ≤ 8) (hDs : D ≤ 8) : HSpec w H hf key D (colsHash W D cs) := by
  have hst' : some (Stmt.FunctionDef _ _ _ [] none [] _ none _ _) = some (.FunctionDef nm params body [] none [] scope none nm2 pos) := hst
  injection hst' with hst'
  injection hst' with e1 e2 e3 _ _ _ e7 _ e9 e10
  subst e1 e2 e3 e7 e9 e10
  obtain ⟨oc, od, sl, rfl⟩ := hfd
  refine ⟨⟨_, _, _, _, hfo⟩, ?_⟩
  intro A s tx tD' Q E hroom hhd hH hQ
  refine wpAny_call ?_
  refine call_clo (B.keeps hH).nolimit (hH _ _ hfo) rfl (hcd.keeps hH) (by show A.depth < 1000; omega) (binds := [(Str.ofString "key", .str key tx), (Str.ofString "many", .int (D : Int) tD')]) (.of_eq (by rfl)) (locs (by rfl)) (cx := Str.ofString "line") (fun _ => by rfl) (fun _ => by rfl) ?_
  intro L h₁ tk F N hL
  have up : ∀ b o, H.get? b = some o → h₁.get? b = some o := fun b o e => F.keep _ _ (hH _ _ e)
  have Bs1 := B.keeps hH
  walk_at "goes"
  refine nameFree (c := c8) (by rfl) (by obtain ⟨o, a, b⟩ := h8; exact ⟨o, up _ _ a, b⟩) ?_ (by rfl) (by rfl) (by decide) (by decide)
  walk_at "goes"
  have hkm : wds.any (· == key) = true := by rw [List.any_eq_true]; exact ⟨key, List.mem_of_getElem? hk, by simp⟩
  refine in_list_strs (⟨_, up _ _ hwl, rfl, kk, rfl⟩) hws ?_
  rw [hkm]
  walk_at "goes"
  refine nameFree (c := c5) (by rfl) (by obtain ⟨o, a, b⟩ := h5; exact ⟨o, up _ _ a, b⟩) ?_ (by rfl) (by rfl) (by decide) (by decide)
  walk_at "goes"
  refine nameFree (c := c8) (by rfl) (by obtain ⟨o, a, b⟩ := h8; exact ⟨o, up _ _ a, b⟩) ?_ (by rfl) (by rfl) (by decide) (by decide)
  refine getMethod_list_of PySem.F.slot_list_index PySem.F.type_list_index (⟨_, up _ _ hwl, rfl, kk, rfl⟩) ⟨_, up _ _ hwl, rfl⟩ ?_
  refine callWith_method1 ?_ (by with_unfolding_all rfl) (by with_unfolding_all rfl)
  walk_at "goes"
  refine index_strs (⟨_, up _ _ hwl, rfl, kk, rfl⟩) hws hwn hk hno ?_
  have hkl : k < wds.length := (List.getElem?_eq_some_iff.mp hk).1
  refine sub_list (isList_keeps hcl up) (by omega) (by omega) (by rw [Int.toNat_natCast]; exact hcv) ?_ (by with_unfolding_all rfl)
  walk_at "goes"
  refine storeX_C F N (by rfl) (.head (fun _ h => nomatch h)) rfl ?_ (by rfl) (by rfl)
  intro h2 o2 F2 N2 ho2
  have up2 : ∀ b o, H.get? b = some o → h2.get? b = some o := fun b o e => F2.keep _ _ (hH _ _ e)
  refine cut_state (s := s) (h := h2) ?_
  intro tk2
  walk_at "goes"
  refine my_ListComp (by rfl) (by decide) (by rfl) (by decide) ?_
  walk_at "goes"
  refine b_range F2 Bs1 ?_ (by rfl) (by rfl)
  walk_at "goes"
  refine csrc_rng (fun i y own => (∃ t, y = .int ((cs i + W * i : Nat) : Int) t) ∧ own = []) hhd (by omega) (by rfl) (by rfl) ?_ ?_
  · intro i t C m₃ h3 tk3 E' hi hn hm k3
    have up3 : ∀ b o, H.get? b = some o → h3.get? b = some o := fun b o e => k3 _ _ (up2 _ _ e)
    have hline : h3.IsCell (L + 1) (some (.ref lk)) := ⟨o2, k3 _ _ (N2 _ (.head _)).1, ho2⟩
    walk_at "goes"
    refine cN_F (c := c6) (by with_unfolding_all rfl) (by obtain ⟨o, a, b⟩ := h6; exact ⟨o, up3 _ _ a, b⟩) ?_ (by with_unfolding_all rfl) (by with_unfolding_all rfl) (by decide) (by decide)
    refine mod_int' (by omega) ?_
    rw [show Int.fmod (i : Int) (D : Int) = (i : Int) by rw [Int.fmod_eq_emod_of_nonneg _ (by omega)]; exact Int.emod_eq_of_lt (by omega) (by omega)]
    walk_at "goes"
    obtain ⟨tv, hx⟩ := hli.get i ((cs i : Nat) : Int) (by simp [hi])
    refine sub_list (isList_keeps hlk up3) (by omega) (by omega) (by rw [Int.toNat_natCast]; exact hx) ?_ (by with_unfolding_all rfl)
    walk_at "goes"
    refine cN_F (c := c7) (by with_unfolding_all rfl) (by obtain ⟨o, a, b⟩ := h7; exact ⟨o, up3 _ _ a, b⟩) ?_ (by with_unfolding_all rfl) (by with_unfolding_all rfl) (by decide) (by decide)
    walk_at "goes"
    refine mul_int ?_ (IntMulOk.of_right (intBits_le_64 (by omega) (by omega)))
    walk_at "goes"
    rw [show ((cs i : Nat) : Int) + (W : Int) * (i : Int) = ((cs i + W * i : Nat) : Int) by push_cast; rfl]
    exact eltEnd_keeps hn ⟨_, rfl⟩ ⟨h3, _, rfl, fun _ _ e => e⟩
  · intro h3 I tk3 hI k3
    refine finV_plain _ k3 (fun b hb => by rw [List.mem_singleton.mp hb]; exact hI) ?_
    intro D4 h4 tk4 hmade k4
    obtain ⟨ys, hD4, hyl, hyv, hyn⟩ := hmade
    have hyn : h2.get? D4 = none := hyn
    have k4 : ∀ b o, h2.get? b = some o → h4.get? b = some o := k4
    exact hQ D4 h4 _ ys (fun b o e _ => k4 _ _ (F2.keep _ _ e)) (none_of_up' F2.keep hyn) hD4 (ints_of hyl hyv)
end
end

-- L4
section
/-- the sketch in the ledger -/
def SK (w : World) (news : List (Addr × Obj)) (x dx bl td hf : Addr) (W D P : Nat) (cell : Nat → Nat → Int) (ea : Int) (b : List (Str × Int)) (mk : Int) : Prop :=
  ∃ (od1 ob ot : Obj), (x, instObj 321 dx) ∈ news ∧ (dx, od1) ∈ news ∧ (bl, ob) ∈ news ∧ (td, ot) ∈ news ∧ ∀ h : Heap, h.get? x = some (instObj 321 dx) → h.get? dx = some od1 → h.get? bl = some ob → h.get? td = some ot → HH w h x dx bl td hf W D P cell ea b mk
section
variable {w : World} {news news' : List (Addr × Obj)} {x dx bl td hf L : Addr} {W D P : Nat} {cell : Nat → Nat → Int} {ea : Int} {b : List (Str × Int)} {mk : Int} {g h : Heap}
theorem SK.sub (X : SK w news x dx bl td hf W D P cell ea b mk) (k : ∀ a ∈ [x, dx, bl, td], ∀ o, (a, o) ∈ news → (a, o) ∈ news') : SK w news' x dx bl td hf W D P cell ea b mk := by
  obtain ⟨od1, ob, ot, h1, h2, h3, h4, h5⟩ := X
  exact ⟨od1, ob, ot, k _ (.head _) _ h1, k _ (.tail _ (.head _)) _ h2, k _ (.tail _ (.tail _ (.head _))) _ h3, k _ (.tail _ (.tail _ (.tail _ (.head _)))) _ h4, h5⟩
theorem SK.at (X : SK w news x dx bl td hf W D P cell ea b mk) (N : News g L h news) : HH w h x dx bl td hf W D P cell ea b mk := by
  obtain ⟨od1, ob, ot, h1, h2, h3, h4, h5⟩ := X
  exact h5 h (N _ h1).1 (N _ h2).1 (N _ h3).1 (N _ h4).1
theorem HHs.parts {r : HV} {bys : List Value} {kvs : List (Str × Value)} {tW tD tE tS tN tM : Tok} (Y : HHs w h x dx bl td hf W D P cell ea b mk r bys kvs tW tD tE tS tN tM) :
    ∃ od1 ob ot, h.get? dx = some od1 ∧ h.get? bl = some ob ∧ h.get? td = some ot ∧ ∀ h' : Heap, h'.get? x = some (instObj 321 dx) → h'.get? dx = some od1 → h'.get? bl = some ob → h'.get? td = some ot → HH w h' x dx bl td hf W D P cell ea b mk := by
  obtain ⟨ob, hob, hob2⟩ := Y.hl
  obtain ⟨ot, hot, hot2⟩ := Heap.dictOf_iff.mp Y.hd
  refine ⟨hvObj w r, ob, ot, Y.hI.dict, hob, hot, fun h' e1 e2 e3 e4 => ⟨r, bys, kvs, tW, tD, tE, tS, tN, tM, ⟨⟨e1, e2⟩, Y.hW, Y.hD, Y.hE, Y.hQ, Y.hB, Y.hH, Y.hT, Y.hS, Y.hN, Y.hM, ⟨ob, e3, hob2⟩, Y.hi, Heap.dictOf_iff.mpr ⟨ot, e4, hot2⟩, Y.hp⟩⟩⟩
theorem SK.of (X : HH w h x dx bl td hf W D P cell ea b mk) (N : News g L h news) (hx : (x, instObj 321 dx) ∈ news) (hd : ∃ o, (dx, o) ∈ news) (hb : ∃ o, (bl, o) ∈ news) (ht : ∃ o, (td, o) ∈ news) : SK w news x dx bl td hf W D P cell ea b mk := by
  obtain ⟨r, bys, kvs, tW, tD, tE, tS, tN, tM, Y⟩ := X
  obtain ⟨od1, ob, ot, e1, e2, e3, e4⟩ := Y.parts
  obtain ⟨o1, hd⟩ := hd
  obtain ⟨o2, hb⟩ := hb
  obtain ⟨o3, ht⟩ := ht
  have q1 := (N _ hd).1
  have q2 := (N _ hb).1
  have q3 := (N _ ht).1
  rw [show h.get? (dx, o1).1 = some od1 from e1] at q1
  rw [show h.get? (bl, o2).1 = some ob from e2] at q2
  rw [show h.get? (td, o3).1 = some ot from e3] at q3
  cases q1; cases q2; cases q3
  exact ⟨_, _, _, hx, hd, hb, ht, e4⟩
end
def wd6 : List Str := [Str.ofString "k0", Str.ofString "k1", Str.ofString "k2", Str.ofString "k3", Str.ofString "k4", Str.ofString "k5"]
theorem wd6_ne {i j : Nat} {y z : Str} (hij : i < j) (hi : wd6[i]? = some y) (hj : wd6[j]? = some z) : y ≠ z := by
  have nd : wd6.Nodup := by decide
  have hil : i < wd6.length := (List.getElem?_eq_some_iff.mp hi).1
  have hjl : j < wd6.length := (List.getElem?_eq_some_iff.mp hj).1
  have e1 : wd6[i] = y := (List.getElem?_eq_some_iff.mp hi).2
  have e2 : wd6[j] = z := (List.getElem?_eq_some_iff.mp hj).2
  intro q
  have := (List.nodup_iff_pairwise_ne.mp nd)
  have h3 := List.pairwise_iff_getElem.mp this i j hil hjl hij
  exact h3 (by rw [e1, e2, q])
/-- what never changes while the law runs -/
structure Fix (w : World) (g : Heap) (L : Addr) (Fx : List (Addr × Obj)) (sl cl wl hf x dx : Addr) (svs : List Value) (ns : List Int) (W D P : Nat) (cols : Nat → Nat → Nat) : Prop where
  B : Bs w g
  scr : LC Fx (L + 1) (some (.ref sl))
  colC : LC Fx (L + 5) (some (.ref cl))
  depC : ∃ t, LC Fx (L + 6) (some (.int (D : Int) t))
  widC : ∃ t, LC Fx (L + 7) (some (.int (W : Int) t))
  worC : LC Fx (L + 8) (some (.ref wl))
  slI : g.IsList sl svs.toArray
  si : IntsAre svs ns
  sn : ns.length ≤ 63
  wlI : ∃ wvs, LL Fx wl wvs ∧ StrsAre wvs wd6
  clI : ∃ cvs, LL Fx cl cvs ∧ ∀ k < 6, ∃ lk lvs, cvs[k]? = some (.ref lk) ∧ LL Fx lk lvs ∧ IntsAre lvs ((List.range D).map fun r => ((cols k r : Nat) : Int))
  cw : ∀ k < 6, ∀ r < D, cols k r < W
  hW : 2 ≤ W ∧ W ≤ 4
  hD : 1 ≤ D ∧ D ≤ 3
  hP : 1 ≤ P ∧ P ≤ 3
  xin : (x, instObj 321 dx) ∈ Fx
  hs : ∀ k < 6, ∀ key, wd6[k]? = some key → ∃ H : Heap, (∀ b o, H.get? b = some o → g.get? b = some o ∨ (b, o) ∈ Fx) ∧ HSpec w H hf key D (colsHash W D (cols k))
def mutA (L dx bl td cel nl vl : Addr) (D : Nat) (ra : Nat → Addr) : List Addr := [L + 2, L + 3, L + 4, dx, bl, td, cel, nl, vl] ++ (List.range D).map ra
/-- what changes, in the ledger -/
structure Mut (w : World) (Fx news : List (Addr × Obj)) (L x dx bl td hf cel nl vl : Addr) (ra : Nat → Addr) (W D P : Nat) (cell cs : Nat → Nat → Int) (ea mk : Int) (b : List (Str × Int)) (nms : List Str) (vls : List Int) : Prop where
  atC : ∃ v, LC news (L + 2) v
  celC : LC news (L + 3) (some (.ref cel))
  booC : ∃ v, LC news (L + 4) v
  celL : LL news cel ((List.range D).map fun r => Value.ref (ra r))
  row : ∀ r < D, ∃ vs, LL news (ra r) vs ∧ IntsAre vs ((List.range W).map (cell r))
  nam : ∃ vs, LL news nl vs ∧ StrsAre vs nms
  val : ∃ vs, LL news vl vs ∧ IntsAre vs vls
  sk : SK w news x dx bl td hf W D P cs ea b mk
  lo : (td == sysModules) = false
  nd : (mutA L dx bl td cel nl vl D ra).Nodup
  fx : ∀ p ∈ Fx, p ∈ news
  fa : ∀ p ∈ Fx, p.1 ∉ mutA L dx bl td cel nl vl D ra
/-- the law's locals -/
structure Loc (m : Str → Option Value) (x nl vl : Addr) (P : Nat) (sums mark : Int) : Prop where
  mh : m (Str.ofString "heavy") = some (.ref x)
  mn : m (Str.ofString "names") = some (.ref nl)
  mv : m (Str.ofString "values") = some (.ref vl)
  mm : ∃ t, m (Str.ofString "mark") = some (.int mark t)
  ms : ∃ t, m (Str.ofString "sums") = some (.int sums t)
  mp : ∃ t, m (Str.ofString "places") = some (.int (P : Int) t)
section
variable {w : World} {Fx news news' : List (Addr × Obj)} {L x dx bl td hf cel nl vl : Addr} {ra : Nat → Addr} {W D P : Nat} {cell cs : Nat → Nat → Int} {ea mk : Int} {b : List (Str × Int)} {nms : List Str} {vls : List Int} {g h : Heap} {m : Str → Option Value}
/-- all that lies in mutA or in Fx stays -/
theorem Mut.sub (Y : Mut w Fx news L x dx bl td hf cel nl vl ra W D P cell cs ea mk b nms vls) (hx : (x, instObj 321 dx) ∈ Fx) (k : ∀ a ∈ mutA L dx bl td cel nl vl D ra, ∀ o, (a, o) ∈ news → (a, o) ∈ news') (kf : ∀ p ∈ Fx, p ∈ news') : Mut w Fx news' L x dx bl td hf cel nl vl ra W D P cell cs ea mk b nms vls := by
  have i1 : ∀ a ∈ [L + 2, L + 3, L + 4, dx, bl, td, cel, nl, vl], a ∈ mutA L dx bl td cel nl vl D ra := fun a ha => List.mem_append_left _ ha
  have i2 : ∀ r < D, ra r ∈ mutA L dx bl td cel nl vl D ra := fun r hr => List.mem_append_right _ (List.mem_map.mpr ⟨r, List.mem_range.mpr hr, rfl⟩)
  obtain ⟨v1, a1⟩ := Y.atC
  obtain ⟨v3, a3⟩ := Y.booC
  obtain ⟨v4, a4, a4'⟩ := Y.nam
  obtain ⟨v5, a5, a5'⟩ := Y.val
  refine ⟨⟨v1, a1.sub (k _ (i1 _ (by simp)))⟩, Y.celC.sub (k _ (i1 _ (by simp))), ⟨v3, a3.sub (k _ (i1 _ (by simp)))⟩, Y.celL.sub (k _ (i1 _ (by simp))), fun r hr => ?_, ⟨v4, a4.sub (k _ (i1 _ (by simp))), a4'⟩, ⟨v5, a5.sub (k _ (i1 _ (by simp))), a5'⟩, ?_, Y.lo, Y.nd, kf, Y.fa⟩
  · obtain ⟨vs, q1, q2⟩ := Y.row r hr
    exact ⟨vs, q1.sub (k _ (i2 r hr)), q2⟩
  · obtain ⟨od1, ob, ot, h1, h2, h3, h4, h5⟩ := Y.sk
    exact ⟨od1, ob, ot, kf _ hx, k _ (i1 _ (by simp)) _ h2, k _ (i1 _ (by simp)) _ h3, k _ (i1 _ (by simp)) _ h4, h5⟩
theorem Mut.rel {W' : List Addr} {h' : Heap} (Y : Mut w Fx news L x dx bl td hf cel nl vl ra W D P cell cs ea mk b nms vls) (hx : (x, instObj 321 dx) ∈ Fx) (k : ∀ a ∈ W', a ∉ mutA L dx bl td cel nl vl D ra) (kf : ∀ p ∈ Fx, p.1 ∉ W') : Mut w Fx (rel W' h' news) L x dx bl td hf cel nl vl ra W D P cell cs ea mk b nms vls :=
  Y.sub hx (fun a ha o hm => rel_keep hm fun q => k _ q ha) fun p hp => rel_keep (Y.fx p hp) (kf p hp)
end
end

-- L4b
section
set_option linter.unusedSimpArgs false
section
variable {w : World} {Fx news : List (Addr × Obj)} {L x dx bl td hf cel nl vl : Addr} {ra : Nat → Addr} {W D P : Nat} {cell cs : Nat → Nat → Int} {ea mk : Int} {b : List (Str × Int)} {nms : List Str} {vls : List Int} {g h : Heap} {m : Str → Option Value}
theorem Mut.mem9 {a : Addr} (D : Nat) (ra : Nat → Addr) (h : a ∈ [L + 2, L + 3, L + 4, dx, bl, td, cel, nl, vl]) : a ∈ mutA L dx bl td cel nl vl D ra := List.mem_append_left _ h
theorem Mut.memR {r : Nat} (hr : r < D) : ra r ∈ mutA L dx bl td cel nl vl D ra := List.mem_append_right _ (List.mem_map.mpr ⟨r, List.mem_range.mpr hr, rfl⟩)
/-- the pairwise apartness, told one by one -/
structure Nes (L dx bl td cel nl vl : Addr) (ra : Nat → Addr) (D : Nat) : Prop where
  at_ce : L + 2 ≠ L + 3
  at_bo : L + 2 ≠ L + 4
  at_dx : L + 2 ≠ dx
  at_bl : L + 2 ≠ bl
  at_td : L + 2 ≠ td
  at_cel : L + 2 ≠ cel
  at_nl : L + 2 ≠ nl
  at_vl : L + 2 ≠ vl
  ce_bo : L + 3 ≠ L + 4
  ce_dx : L + 3 ≠ dx
  ce_bl : L + 3 ≠ bl
  ce_td : L + 3 ≠ td
  ce_cel : L + 3 ≠ cel
  ce_nl : L + 3 ≠ nl
  ce_vl : L + 3 ≠ vl
  bo_dx : L + 4 ≠ dx
  bo_bl : L + 4 ≠ bl
  bo_td : L + 4 ≠ td
  bo_cel : L + 4 ≠ cel
  bo_nl : L + 4 ≠ nl
  bo_vl : L + 4 ≠ vl
  dx_bl : dx ≠ bl
  dx_td : dx ≠ td
  dx_cel : dx ≠ cel
  dx_nl : dx ≠ nl
  dx_vl : dx ≠ vl
  bl_td : bl ≠ td
  bl_cel : bl ≠ cel
  bl_nl : bl ≠ nl
  bl_vl : bl ≠ vl
  td_cel : td ≠ cel
  td_nl : td ≠ nl
  td_vl : td ≠ vl
  cel_nl : cel ≠ nl
  cel_vl : cel ≠ vl
  nl_vl : nl ≠ vl
  at_r : ∀ r < D, L + 2 ≠ ra r
  ce_r : ∀ r < D, L + 3 ≠ ra r
  bo_r : ∀ r < D, L + 4 ≠ ra r
  dx_r : ∀ r < D, dx ≠ ra r
  bl_r : ∀ r < D, bl ≠ ra r
  td_r : ∀ r < D, td ≠ ra r
  cel_r : ∀ r < D, cel ≠ ra r
  nl_r : ∀ r < D, nl ≠ ra r
  vl_r : ∀ r < D, vl ≠ ra r
  r_r : ∀ r < D, ∀ r' < D, r ≠ r' → ra r ≠ ra r'
theorem nes_of {L dx bl td cel nl vl : Addr} {ra : Nat → Addr} {D : Nat} (nd : (mutA L dx bl td cel nl vl D ra).Nodup) : Nes L dx bl td cel nl vl ra D := by
  simp only [mutA, List.cons_append, List.nil_append, List.nodup_cons, List.mem_cons, not_or] at nd
  obtain ⟨⟨natce, natbo, natdx, natbl, nattd, natcel, natnl, natvl, natr⟩, ⟨ncebo, ncedx, ncebl, ncetd, ncecel, ncenl, ncevl, ncer⟩, ⟨nbodx, nbobl, nbotd, nbocel, nbonl, nbovl, nbor⟩, ⟨ndxbl, ndxtd, ndxcel, ndxnl, ndxvl, ndxr⟩, ⟨nbltd, nblcel, nblnl, nblvl, nblr⟩, ⟨ntdcel, ntdnl, ntdvl, ntdr⟩, ⟨ncelnl, ncelvl, ncelr⟩, ⟨nnlvl, nnlr⟩, nvlr, nrr⟩ := nd
  have rr : ∀ {a : Addr}, a ∉ (List.range D).map ra → ∀ r < D, a ≠ ra r := fun h r hr q => h (List.mem_map.mpr ⟨r, List.mem_range.mpr hr, q.symm⟩)
  have r2 : ∀ r < D, ∀ r' < D, r ≠ r' → ra r ≠ ra r' := fun r hr r' hr' hne q => by
    have h1 := List.pairwise_iff_getElem.mp (List.nodup_iff_pairwise_ne.mp nrr)
    rcases Nat.lt_or_gt_of_ne hne with hlt | hlt
    · exact h1 r r' (by simpa using hr) (by simpa using hr') hlt (by simpa using q)
    · exact h1 r' r (by simpa using hr') (by simpa using hr) hlt (by simpa using q.symm)
  exact ⟨natce, natbo, natdx, natbl, nattd, natcel, natnl, natvl, ncebo, ncedx, ncebl, ncetd, ncecel, ncenl, ncevl, nbodx, nbobl, nbotd, nbocel, nbonl, nbovl, ndxbl, ndxtd, ndxcel, ndxnl, ndxvl, nbltd, nblcel, nblnl, nblvl, ntdcel, ntdnl, ntdvl, ncelnl, ncelvl, nnlvl, rr natr, rr ncer, rr nbor, rr ndxr, rr nblr, rr ntdr, rr ncelr, rr nnlr, rr nvlr, r2⟩
theorem nd_of {L dx bl td cel nl vl : Addr} {ra : Nat → Addr} {D : Nat} (n : Nes L dx bl td cel nl vl ra D) : (mutA L dx bl td cel nl vl D ra).Nodup := by
  have rr : ∀ {a : Addr}, (∀ r < D, a ≠ ra r) → a ∉ (List.range D).map ra := fun h q => by
    obtain ⟨r, hr, e⟩ := List.mem_map.mp q
    exact h r (List.mem_range.mp hr) e.symm
  have r2 : ((List.range D).map ra).Nodup := by
    rw [List.nodup_iff_pairwise_ne, List.pairwise_iff_getElem]
    intro i j hi hj hlt q
    have hi2 : i < D := by simpa using hi
    have hj2 : j < D := by simpa using hj
    exact n.r_r i hi2 j hj2 (Nat.ne_of_lt hlt) (by simpa using q)
  simp only [mutA, List.cons_append, List.nil_append, List.nodup_cons, List.mem_cons, not_or]
  exact ⟨⟨n.at_ce, n.at_bo, n.at_dx, n.at_bl, n.at_td, n.at_cel, n.at_nl, n.at_vl, rr n.at_r⟩, ⟨n.ce_bo, n.ce_dx, n.ce_bl, n.ce_td, n.ce_cel, n.ce_nl, n.ce_vl, rr n.ce_r⟩, ⟨n.bo_dx, n.bo_bl, n.bo_td, n.bo_cel, n.bo_nl, n.bo_vl, rr n.bo_r⟩, ⟨n.dx_bl, n.dx_td, n.dx_cel, n.dx_nl, n.dx_vl, rr n.dx_r⟩, ⟨n.bl_td, n.bl_cel, n.bl_nl, n.bl_vl, rr n.bl_r⟩, ⟨n.td_cel, n.td_nl, n.td_vl, rr n.td_r⟩, ⟨n.cel_nl, n.cel_vl, rr n.cel_r⟩, ⟨n.nl_vl, rr n.nl_r⟩, rr n.vl_r, r2⟩
theorem Mut.atV {h' : Heap} {v : Option Value} (Y : Mut w Fx news L x dx bl td hf cel nl vl ra W D P cell cs ea mk b nms vls) (hx : (x, instObj 321 dx) ∈ Fx) (C : LC (Mine.rel [L + 2] h' news) (L + 2) v) :
    Mut w Fx (Mine.rel [L + 2] h' news) L x dx bl td hf cel nl vl ra W D P cell cs ea mk b nms vls := by
  have n := nes_of Y.nd
  have kx : ∀ p ∈ Fx, p.1 ∉ [L + 2] := fun p hp q => by
    simp only [List.mem_cons, List.mem_nil_iff, or_false] at q
    exact Y.fa p hp (by rw [q]; exact Mut.mem9 D ra (by simp))
  refine ⟨⟨v, C⟩, (Y.celC.sub fun o hm => rel_keep hm (by simp only [List.mem_cons, List.mem_nil_iff, or_false, not_or]; exact n.at_ce.symm)), (let ⟨v, q⟩ := Y.booC; ⟨v, q.sub fun o hm => rel_keep hm (by simp only [List.mem_cons, List.mem_nil_iff, or_false, not_or]; exact n.at_bo.symm)⟩), (Y.celL.sub fun o hm => rel_keep hm (by simp only [List.mem_cons, List.mem_nil_iff, or_false, not_or]; exact n.at_cel.symm)), (fun r hr => let ⟨v, q, q'⟩ := Y.row r hr; ⟨v, q.sub fun o hm => rel_keep hm (by simp only [List.mem_cons, List.mem_nil_iff, or_false, not_or]; exact (n.at_r r hr).symm), q'⟩), (let ⟨v, q, q'⟩ := Y.nam; ⟨v, q.sub fun o hm => rel_keep hm (by simp only [List.mem_cons, List.mem_nil_iff, or_false, not_or]; exact n.at_nl.symm), q'⟩), (let ⟨v, q, q'⟩ := Y.val; ⟨v, q.sub fun o hm => rel_keep hm (by simp only [List.mem_cons, List.mem_nil_iff, or_false, not_or]; exact n.at_vl.symm), q'⟩), (let ⟨o1, o2, o3, q1, q2, q3, q4, q5⟩ := Y.sk; ⟨o1, o2, o3, rel_keep (Y.fx _ hx) (kx _ hx), rel_keep q2 (by simp only [List.mem_cons, List.mem_nil_iff, or_false, not_or]; exact n.at_dx.symm), rel_keep q3 (by simp only [List.mem_cons, List.mem_nil_iff, or_false, not_or]; exact n.at_bl.symm), rel_keep q4 (by simp only [List.mem_cons, List.mem_nil_iff, or_false, not_or]; exact n.at_td.symm), q5⟩), Y.lo, Y.nd, fun p hp => rel_keep (Y.fx p hp) (kx p hp), Y.fa⟩
theorem Mut.booV {h' : Heap} {v : Option Value} (Y : Mut w Fx news L x dx bl td hf cel nl vl ra W D P cell cs ea mk b nms vls) (hx : (x, instObj 321 dx) ∈ Fx) (C : LC (Mine.rel [L + 4] h' news) (L + 4) v) :
    Mut w Fx (Mine.rel [L + 4] h' news) L x dx bl td hf cel nl vl ra W D P cell cs ea mk b nms vls := by
  have n := nes_of Y.nd
  have kx : ∀ p ∈ Fx, p.1 ∉ [L + 4] := fun p hp q => by
    simp only [List.mem_cons, List.mem_nil_iff, or_false] at q
    exact Y.fa p hp (by rw [q]; exact Mut.mem9 D ra (by simp))
  refine ⟨(let ⟨v, q⟩ := Y.atC; ⟨v, q.sub fun o hm => rel_keep hm (by simp only [List.mem_cons, List.mem_nil_iff, or_false, not_or]; exact n.at_bo)⟩), (Y.celC.sub fun o hm => rel_keep hm (by simp only [List.mem_cons, List.mem_nil_iff, or_false, not_or]; exact n.ce_bo)), ⟨v, C⟩, (Y.celL.sub fun o hm => rel_keep hm (by simp only [List.mem_cons, List.mem_nil_iff, or_false, not_or]; exact n.bo_cel.symm)), (fun r hr => let ⟨v, q, q'⟩ := Y.row r hr; ⟨v, q.sub fun o hm => rel_keep hm (by simp only [List.mem_cons, List.mem_nil_iff, or_false, not_or]; exact (n.bo_r r hr).symm), q'⟩), (let ⟨v, q, q'⟩ := Y.nam; ⟨v, q.sub fun o hm => rel_keep hm (by simp only [List.mem_cons, List.mem_nil_iff, or_false, not_or]; exact n.bo_nl.symm), q'⟩), (let ⟨v, q, q'⟩ := Y.val; ⟨v, q.sub fun o hm => rel_keep hm (by simp only [List.mem_cons, List.mem_nil_iff, or_false, not_or]; exact n.bo_vl.symm), q'⟩), (let ⟨o1, o2, o3, q1, q2, q3, q4, q5⟩ := Y.sk; ⟨o1, o2, o3, rel_keep (Y.fx _ hx) (kx _ hx), rel_keep q2 (by simp only [List.mem_cons, List.mem_nil_iff, or_false, not_or]; exact n.bo_dx.symm), rel_keep q3 (by simp only [List.mem_cons, List.mem_nil_iff, or_false, not_or]; exact n.bo_bl.symm), rel_keep q4 (by simp only [List.mem_cons, List.mem_nil_iff, or_false, not_or]; exact n.bo_td.symm), q5⟩), Y.lo, Y.nd, fun p hp => rel_keep (Y.fx p hp) (kx p hp), Y.fa⟩
theorem Mut.namV {h' : Heap} {nms' : List Str} {vs : List Value} (Y : Mut w Fx news L x dx bl td hf cel nl vl ra W D P cell cs ea mk b nms vls) (hx : (x, instObj 321 dx) ∈ Fx) (C : LL (Mine.rel [nl] h' news) nl vs) (hv : StrsAre vs nms') :
    Mut w Fx (Mine.rel [nl] h' news) L x dx bl td hf cel nl vl ra W D P cell cs ea mk b nms' vls := by
  have n := nes_of Y.nd
  have kx : ∀ p ∈ Fx, p.1 ∉ [nl] := fun p hp q => by
    simp only [List.mem_cons, List.mem_nil_iff, or_false] at q
    exact Y.fa p hp (by rw [q]; exact Mut.mem9 D ra (by simp))
  refine ⟨(let ⟨v, q⟩ := Y.atC; ⟨v, q.sub fun o hm => rel_keep hm (by simp only [List.mem_cons, List.mem_nil_iff, or_false, not_or]; exact n.at_nl)⟩), (Y.celC.sub fun o hm => rel_keep hm (by simp only [List.mem_cons, List.mem_nil_iff, or_false, not_or]; exact n.ce_nl)), (let ⟨v, q⟩ := Y.booC; ⟨v, q.sub fun o hm => rel_keep hm (by simp only [List.mem_cons, List.mem_nil_iff, or_false, not_or]; exact n.bo_nl)⟩), (Y.celL.sub fun o hm => rel_keep hm (by simp only [List.mem_cons, List.mem_nil_iff, or_false, not_or]; exact n.cel_nl)), (fun r hr => let ⟨v, q, q'⟩ := Y.row r hr; ⟨v, q.sub fun o hm => rel_keep hm (by simp only [List.mem_cons, List.mem_nil_iff, or_false, not_or]; exact (n.nl_r r hr).symm), q'⟩), ⟨vs, C, hv⟩, (let ⟨v, q, q'⟩ := Y.val; ⟨v, q.sub fun o hm => rel_keep hm (by simp only [List.mem_cons, List.mem_nil_iff, or_false, not_or]; exact n.nl_vl.symm), q'⟩), (let ⟨o1, o2, o3, q1, q2, q3, q4, q5⟩ := Y.sk; ⟨o1, o2, o3, rel_keep (Y.fx _ hx) (kx _ hx), rel_keep q2 (by simp only [List.mem_cons, List.mem_nil_iff, or_false, not_or]; exact n.dx_nl), rel_keep q3 (by simp only [List.mem_cons, List.mem_nil_iff, or_false, not_or]; exact n.bl_nl), rel_keep q4 (by simp only [List.mem_cons, List.mem_nil_iff, or_false, not_or]; exact n.td_nl), q5⟩), Y.lo, Y.nd, fun p hp => rel_keep (Y.fx p hp) (kx p hp), Y.fa⟩
theorem Mut.valV {h' : Heap} {vls' : List Int} {vs : List Value} (Y : Mut w Fx news L x dx bl td hf cel nl vl ra W D P cell cs ea mk b nms vls) (hx : (x, instObj 321 dx) ∈ Fx) (C : LL (Mine.rel [vl] h' news) vl vs) (hv : IntsAre vs vls') :
    Mut w Fx (Mine.rel [vl] h' news) L x dx bl td hf cel nl vl ra W D P cell cs ea mk b nms vls' := by
  have n := nes_of Y.nd
  have kx : ∀ p ∈ Fx, p.1 ∉ [vl] := fun p hp q => by
    simp only [List.mem_cons, List.mem_nil_iff, or_false] at q
    exact Y.fa p hp (by rw [q]; exact Mut.mem9 D ra (by simp))
  refine ⟨(let ⟨v, q⟩ := Y.atC; ⟨v, q.sub fun o hm => rel_keep hm (by simp only [List.mem_cons, List.mem_nil_iff, or_false, not_or]; exact n.at_vl)⟩), (Y.celC.sub fun o hm => rel_keep hm (by simp only [List.mem_cons, List.mem_nil_iff, or_false, not_or]; exact n.ce_vl)), (let ⟨v, q⟩ := Y.booC; ⟨v, q.sub fun o hm => rel_keep hm (by simp only [List.mem_cons, List.mem_nil_iff, or_false, not_or]; exact n.bo_vl)⟩), (Y.celL.sub fun o hm => rel_keep hm (by simp only [List.mem_cons, List.mem_nil_iff, or_false, not_or]; exact n.cel_vl)), (fun r hr => let ⟨v, q, q'⟩ := Y.row r hr; ⟨v, q.sub fun o hm => rel_keep hm (by simp only [List.mem_cons, List.mem_nil_iff, or_false, not_or]; exact (n.vl_r r hr).symm), q'⟩), (let ⟨v, q, q'⟩ := Y.nam; ⟨v, q.sub fun o hm => rel_keep hm (by simp only [List.mem_cons, List.mem_nil_iff, or_false, not_or]; exact n.nl_vl), q'⟩), ⟨vs, C, hv⟩, (let ⟨o1, o2, o3, q1, q2, q3, q4, q5⟩ := Y.sk; ⟨o1, o2, o3, rel_keep (Y.fx _ hx) (kx _ hx), rel_keep q2 (by simp only [List.mem_cons, List.mem_nil_iff, or_false, not_or]; exact n.dx_vl), rel_keep q3 (by simp only [List.mem_cons, List.mem_nil_iff, or_false, not_or]; exact n.bl_vl), rel_keep q4 (by simp only [List.mem_cons, List.mem_nil_iff, or_false, not_or]; exact n.td_vl), q5⟩), Y.lo, Y.nd, fun p hp => rel_keep (Y.fx p hp) (kx p hp), Y.fa⟩
theorem Mut.rowV {h' : Heap} {cell' : Nat → Nat → Int} {vs : List Value} {r0 : Nat} (Y : Mut w Fx news L x dx bl td hf cel nl vl ra W D P cell cs ea mk b nms vls) (hx : (x, instObj 321 dx) ∈ Fx) (hr0 : r0 < D) (C : LL (Mine.rel [ra r0] h' news) (ra r0) vs) (hv : IntsAre vs ((List.range W).map (cell' r0))) (hs : ∀ r < D, r ≠ r0 → (List.range W).map (cell' r) = (List.range W).map (cell r)) :
    Mut w Fx (Mine.rel [ra r0] h' news) L x dx bl td hf cel nl vl ra W D P cell' cs ea mk b nms vls := by
  have n := nes_of Y.nd
  have kx : ∀ p ∈ Fx, p.1 ∉ [ra r0] := fun p hp q => by
    simp only [List.mem_cons, List.mem_nil_iff, or_false] at q
    exact Y.fa p hp (by rw [q]; exact Mut.memR hr0)
  refine ⟨(let ⟨v, q⟩ := Y.atC; ⟨v, q.sub fun o hm => rel_keep hm (by simp only [List.mem_cons, List.mem_nil_iff, or_false, not_or]; exact (n.at_r _ hr0))⟩), (Y.celC.sub fun o hm => rel_keep hm (by simp only [List.mem_cons, List.mem_nil_iff, or_false, not_or]; exact (n.ce_r _ hr0))), (let ⟨v, q⟩ := Y.booC; ⟨v, q.sub fun o hm => rel_keep hm (by simp only [List.mem_cons, List.mem_nil_iff, or_false, not_or]; exact (n.bo_r _ hr0))⟩), (Y.celL.sub fun o hm => rel_keep hm (by simp only [List.mem_cons, List.mem_nil_iff, or_false, not_or]; exact (n.cel_r _ hr0))), fun r hr => if hrne : r = r0 then ⟨vs, by rw [hrne]; exact C, by rw [hrne]; exact hv⟩ else (let ⟨v, q, q'⟩ := Y.row r hr; ⟨v, q.sub fun o hm => rel_keep hm (by simp only [List.mem_cons, List.mem_nil_iff, or_false]; exact n.r_r r hr _ hr0 hrne), by rw [hs r hr hrne]; exact q'⟩), (let ⟨v, q, q'⟩ := Y.nam; ⟨v, q.sub fun o hm => rel_keep hm (by simp only [List.mem_cons, List.mem_nil_iff, or_false, not_or]; exact (n.nl_r _ hr0)), q'⟩), (let ⟨v, q, q'⟩ := Y.val; ⟨v, q.sub fun o hm => rel_keep hm (by simp only [List.mem_cons, List.mem_nil_iff, or_false, not_or]; exact (n.vl_r _ hr0)), q'⟩), (let ⟨o1, o2, o3, q1, q2, q3, q4, q5⟩ := Y.sk; ⟨o1, o2, o3, rel_keep (Y.fx _ hx) (kx _ hx), rel_keep q2 (by simp only [List.mem_cons, List.mem_nil_iff, or_false, not_or]; exact (n.dx_r _ hr0)), rel_keep q3 (by simp only [List.mem_cons, List.mem_nil_iff, or_false, not_or]; exact (n.bl_r _ hr0)), rel_keep q4 (by simp only [List.mem_cons, List.mem_nil_iff, or_false, not_or]; exact (n.td_r _ hr0)), q5⟩), Y.lo, Y.nd, fun p hp => rel_keep (Y.fx p hp) (kx p hp), Y.fa⟩
theorem Mut.skV {h' : Heap} {cs' : Nat → Nat → Int} {ea' mk' : Int} {b' : List (Str × Int)} (Y : Mut w Fx news L x dx bl td hf cel nl vl ra W D P cell cs ea mk b nms vls) (hx : (x, instObj 321 dx) ∈ Fx) (C : SK w (Mine.rel [dx, bl, td] h' news) x dx bl td hf W D P cs' ea' b' mk') :
    Mut w Fx (Mine.rel [dx, bl, td] h' news) L x dx bl td hf cel nl vl ra W D P cell cs' ea' mk' b' nms vls := by
  have n := nes_of Y.nd
  have kx : ∀ p ∈ Fx, p.1 ∉ [dx, bl, td] := fun p hp q => by
    simp only [List.mem_cons, List.mem_nil_iff, or_false] at q
    rcases q with q | q | q
    · exact Y.fa p hp (by rw [q]; exact Mut.mem9 D ra (by simp))
    · exact Y.fa p hp (by rw [q]; exact Mut.mem9 D ra (by simp))
    · exact Y.fa p hp (by rw [q]; exact Mut.mem9 D ra (by simp))
  refine ⟨(let ⟨v, q⟩ := Y.atC; ⟨v, q.sub fun o hm => rel_keep hm (by simp only [List.mem_cons, List.mem_nil_iff, or_false, not_or]; exact ⟨n.at_dx, n.at_bl, n.at_td⟩)⟩), (Y.celC.sub fun o hm => rel_keep hm (by simp only [List.mem_cons, List.mem_nil_iff, or_false, not_or]; exact ⟨n.ce_dx, n.ce_bl, n.ce_td⟩)), (let ⟨v, q⟩ := Y.booC; ⟨v, q.sub fun o hm => rel_keep hm (by simp only [List.mem_cons, List.mem_nil_iff, or_false, not_or]; exact ⟨n.bo_dx, n.bo_bl, n.bo_td⟩)⟩), (Y.celL.sub fun o hm => rel_keep hm (by simp only [List.mem_cons, List.mem_nil_iff, or_false, not_or]; exact ⟨n.dx_cel.symm, n.bl_cel.symm, n.td_cel.symm⟩)), (fun r hr => let ⟨v, q, q'⟩ := Y.row r hr; ⟨v, q.sub fun o hm => rel_keep hm (by simp only [List.mem_cons, List.mem_nil_iff, or_false, not_or]; exact ⟨(n.dx_r r hr).symm, (n.bl_r r hr).symm, (n.td_r r hr).symm⟩), q'⟩), (let ⟨v, q, q'⟩ := Y.nam; ⟨v, q.sub fun o hm => rel_keep hm (by simp only [List.mem_cons, List.mem_nil_iff, or_false, not_or]; exact ⟨n.dx_nl.symm, n.bl_nl.symm, n.td_nl.symm⟩), q'⟩), (let ⟨v, q, q'⟩ := Y.val; ⟨v, q.sub fun o hm => rel_keep hm (by simp only [List.mem_cons, List.mem_nil_iff, or_false, not_or]; exact ⟨n.dx_vl.symm, n.bl_vl.symm, n.td_vl.symm⟩), q'⟩), C, Y.lo, Y.nd, fun p hp => rel_keep (Y.fx p hp) (kx p hp), Y.fa⟩
end
end

-- M1
section
noncomputable def turnSts (w : World) : List Stmt := match (lawSts w)[10]? with | some (Stmt.For _ _ b _ _) => b | _ => []
noncomputable def clearSts (w : World) : List Stmt := match (turnSts w)[1]? with | some (Stmt.If _ b _ _) => b | _ => []
noncomputable def addSts (w : World) : List Stmt := match (turnSts w)[1]? with | some (Stmt.If _ _ b _) => b | _ => []
theorem LL.tail {news : List (Addr × Obj)} {p : Addr × Obj} {a : Addr} {vs : List Value} (x : LL (p :: news) a vs) (h : a ≠ p.1) : LL news a vs := by
  obtain ⟨k, hm⟩ := x
  rcases List.mem_cons.mp hm with e | hm
  · exact absurd (congrArg Prod.fst e) h
  · exact ⟨k, hm⟩
theorem rel_cons {W : List Addr} {h' : Heap} {news : List (Addr × Obj)} {p : Addr × Obj} (h : p.1 ∉ W) : rel W h' (p :: news) = p :: rel W h' news := by
  unfold rel
  rw [List.map_cons, if_neg h]
theorem bump_row {W r c : Nat} {cell : Nat → Nat → Int} {cs : Nat → Nat} {n : Int} (hc : cs r = c) (hcW : c < W) : ((List.range W).map (bumpTo r cell cs n r)).set c (cell r c + n) = (List.range W).map (bumpTo (r + 1) cell cs n r) := by
  subst hc
  refine List.ext_getElem (by simp) fun j h1 h2 => ?_
  rw [List.getElem_set]
  by_cases q : cs r = j
  · subst q; simp [bumpTo]
  · have q' : ¬ j = cs r := fun e => q e.symm
    simp [bumpTo, q, q']
theorem bump_other {W r r' : Nat} {cell : Nat → Nat → Int} {cs : Nat → Nat} {n : Int} (h : r' ≠ r) : (List.range W).map (bumpTo (r + 1) cell cs n r') = (List.range W).map (bumpTo r cell cs n r') := by
  refine List.map_congr_left fun j _ => ?_
  unfold bumpTo
  have : (r' < r + 1 ∧ j = cs r') ↔ (r' < r ∧ j = cs r') := by constructor <;> (rintro ⟨a, b⟩; exact ⟨by omega, b⟩)
  simp only [this]
theorem Mut.congr {w : World} {Fx news : List (Addr × Obj)} {L x dx bl td hf cel nl vl : Addr} {ra : Nat → Addr} {W D P : Nat} {cell cell' cs : Nat → Nat → Int} {ea mk : Int} {b : List (Str × Int)} {nms : List Str} {vls : List Int} (Y : Mut w Fx news L x dx bl td hf cel nl vl ra W D P cell cs ea mk b nms vls)
    (h : ∀ r < D, (List.range W).map (cell' r) = (List.range W).map (cell r)) : Mut w Fx news L x dx bl td hf cel nl vl ra W D P cell' cs ea mk b nms vls :=
  ⟨Y.atC, Y.celC, Y.booC, Y.celL, fun r hr => by rw [h r hr]; exact Y.row r hr, Y.nam, Y.val, Y.sk, Y.lo, Y.nd, Y.fx, Y.fa⟩
section
variable {w : World} {A : Around} {E : Value → Shared → Prop} {s : Shared} {env : Env} {g : Heap} {body : List Stmt} {Q : Flow → Shared → Prop}
theorem for_rng {n : Nat} {t : Tok} {x : Str} {px : Pos} {m : Str → Option Value} {news : List (Addr × Obj)} (hh : A.handled = none) (hn : n ≤ 64)
    (F : Fr g env.locals s.heap m) (N : News g env.locals s.heap news) (hx : env.kindOf x = some .local) (hp : (env.scope.kind == .class || (env.scope.kind == .module && env.locals != env.globals)) = false)
    (J : Nat → (Str → Option Value) → List (Addr × Obj) → Prop) (h0 : J 0 m news)
    (turn : ∀ i t m₁ news₁ h tk I oI, i < n → J i m₁ news₁ → (∀ p ∈ news₁, p.1 ≠ I) → g.get? I = none → Fr g env.locals h (fun y => if y = x then some (.int (i : Int) t) else m₁ y) → News g env.locals h ((I, oI) :: news₁) →
      wpAny (model PG w) A (execs body env) (EndO g env.locals [(I, oI)] [I] (J (i + 1)) { s with heap := h, toks := tk } Q) E { s with heap := h, toks := tk })
    (done : ∀ h tk m₁ news₁, Fr g env.locals h m₁ → News g env.locals h news₁ → J n m₁ news₁ → Q .next { s with heap := h, toks := tk }) :
    wpAny (model PG w) A (call (.type "range") [.int (n : Int) t]) (fun xv s₁ => wpAny (model PG w) A (pyIter xv) (fun it s₂ => TurnsAt PG w A g env (.Name x px) body Q E it s₂) E s₁) E s := by
  refine call_range_1 ?_
  have up : ∀ b o, s.heap.get? b = some o → (s.heap.push { cls := .type "range", data := .fields #[.int 0 s.toks, .int (n : Int) t, .int 1 (s.toks + 1)] }).get? b = some o := fun b o e => Heap.get?_push_of_some _ e
  refine for_range (n := n) hh (IsRange.new _ _ _ _ _ _ _) (small_one (by omega) (by omega) (by omega) (by omega)) (by rw [rangeSize_nat]; omega) (F.keeps up) (N.grown up) hx hp J h0 ?_ done
  intro i t m₁ news₁ h tk I oI hi hJ hne hg F' N'
  rw [Int.zero_add] at F'
  exact turn i t m₁ news₁ h tk I oI hi hJ hne hg F' N'
end
section
variable {w : World} {A : Around} {s : Shared} {E : Value → Shared → Prop}
/-- the rows are bumped -/
theorem law_bump {Q : Flow → Shared → Prop} {scope : Scope} {tg it : Expr} {body : List Stmt} {pos : Pos} (hsc : (fdAt w 343).map (·.scope) = some scope) (hst : (addSts w)[3]? = some (.For tg it body [] pos))
    {g : Heap} {L sl cl wl hf x dx bl td cel nl vl fa : Addr} {Fx news : List (Addr × Obj)} {svs : List Value} {ns : List Int} {W D P k : Nat} {cols : Nat → Nat → Nat} {ra : Nat → Addr} {cell cs : Nat → Nat → Int} {ea mk sums mark amt : Int} {b : List (Str × Int)} {nms : List Str} {vls : List Int} {m : Str → Option Value} {tk ta : Tok} {wv : Value}
    (X : Fix w g L Fx sl cl wl hf x dx svs ns W D P cols) (Y : Mut w Fx news L x dx bl td hf cel nl vl ra W D P cell cs ea mk b nms vls) (Z : Loc m x nl vl P sums mark) (C : LC news (L + 2) (some (.int (k : Int) tk))) (hk : k < 6)
    (F : Fr g L s.heap m) (N : News g L s.heap news) (hword : m (Str.ofString "word") = some wv) (hamt : m (Str.ofString "amount") = some (.int amt ta)) (hroom : A.depth < 500) (hhd : A.handled = none)
    (hE : PassesOwn (model PG w) A (envX (Str.ofString "law") scope L fa (.ref 342) (cellsFrom (L + 1) scope.names [])) E)
    (done : ∀ h' tk' m' news', Fr g L h' m' → News g L h' news' → Mut w Fx news' L x dx bl td hf cel nl vl ra W D P (bump cell (cols k) amt) cs ea mk b nms vls → LC news' (L + 2) (some (.int (k : Int) tk)) → Loc m' x nl vl P sums mark → m' (Str.ofString "word") = some wv → m' (Str.ofString "amount") = some (.int amt ta) → Q .next { s with heap := h', toks := tk' }) :
    wpAny (model PG w) A (exec (.For tg it body [] pos) (envX (Str.ofString "law") scope L fa (.ref 342) (cellsFrom (L + 1) scope.names []))) Q E s := by
  have hsc' : some (⟨_, _, _, _, _⟩ : Scope) = some scope := hsc
  injection hsc' with hsc'
  subst hsc'
  have hst' : some (Stmt.For _ _ (_ :: _) _ _) = some (.For tg it body [] pos) := hst
  injection hst' with hst'
  injection hst' with e1 e2 e3 _ e5
  subst e1 e2 e3 e5
  refine For_turns F ?_ (by intro _; with_unfolding_all rfl) hE
  walk_at "goes"
  refine b_range F X.B ?_ (by rfl) (by rfl)
  walk_at "goes"
  obtain ⟨tD, hdep⟩ := X.depC
  refine nC N (hdep.sub fun o hm => Y.fx _ hm) (by rfl) ?_ (by rfl) (by rfl) (by decide)
  walk_at "goes"
  have hD3 := X.hD.2
  have hW4 := X.hW.2
  refine for_rng hhd (by omega) F N (by rfl) (by rfl)
    (fun r m₁ news₁ => Mut w Fx news₁ L x dx bl td hf cel nl vl ra W D P (bumpTo r cell (cols k) amt) cs ea mk b nms vls ∧ LC news₁ (L + 2) (some (.int (k : Int) tk)) ∧ Loc m₁ x nl vl P sums mark ∧ m₁ (Str.ofString "word") = some wv ∧ m₁ (Str.ofString "amount") = some (.int amt ta)) ?_ ?_ ?_
  · exact ⟨by rw [bumpTo_zero]; exact Y, C, Z, hword, hamt⟩
  · rintro r tr m₁ news₁ h1 tk1 I oI hr ⟨Y1, C1, Z1, hw1, ha1⟩ hne gI F1 N1
    have NI : ∀ p ∈ Fx, p ∈ (I, oI) :: news₁ := fun p hp => .tail _ (Y1.fx p hp)
    have up : ∀ {a : Addr} {vs : List Value}, LL news₁ a vs → LL ((I, oI) :: news₁) a vs := fun q => q.sub fun o hm => .tail _ hm
    walk_at "goes"
    refine nC N1 (Y1.celC.sub fun o hm => .tail _ hm) (by rfl) ?_ (by rfl) (by rfl) (by decide)
    walk_at "goes"
    refine sub_list ((up Y1.celL).at N1) (by omega) (by omega) (v := .ref (ra r)) (by rw [Int.toNat_natCast]; simp [hr]) ?_ (by with_unfolding_all rfl)
    refine storeX_L F1 N1 ?_ (by rfl) (by rfl)
    intro h2 F2 N2
    refine cut_state (s := { s with heap := h1, toks := tk1 }) (h := h2) ?_
    intro tk2
    walk_at "go"
    refine wpAny_AugAssign_Subscript_any ?_ (by intro _ _ _; with_unfolding_all rfl)
    walk_at "goes"
    refine nC N2 (X.colC.sub fun o hm => NI _ hm) (by rfl) ?_ (by rfl) (by rfl) (by decide)
    walk_at "goes"
    refine nC N2 (C1.sub fun o hm => .tail _ hm) (by rfl) ?_ (by rfl) (by rfl) (by decide)
    walk_at "goes"
    obtain ⟨cvs, hcl, hcv⟩ := X.clI
    obtain ⟨lk, lvs, hlk, hlkl, hli⟩ := hcv k hk
    refine sub_list ((hcl.sub fun o hm => NI _ hm).at N2) (by omega) (by omega) (by rw [Int.toNat_natCast]; exact hlk) ?_ (by with_unfolding_all rfl)
    walk_at "goes"
    obtain ⟨tc, hcx⟩ := hli.get r ((cols k r : Nat) : Int) (by simp [hr])
    refine sub_list ((hlkl.sub fun o hm => NI _ hm).at N2) (by omega) (by omega) (by rw [Int.toNat_natCast]; exact hcx) ?_ (by with_unfolding_all rfl)
    obtain ⟨rvs, hrl, hri⟩ := Y1.row r hr
    have hcw := X.cw k hk r hr
    have hrlen : rvs.length = W := by rw [hri.length]; simp
    obtain ⟨tr2, hrx⟩ := hri.get (cols k r) (bumpTo r cell (cols k) amt r (cols k r)) (by simp [hcw])
    have hbr : bumpTo r cell (cols k) amt r (cols k r) = cell r (cols k r) := by simp [bumpTo]
    rw [hbr] at hrx
    refine wpAny_getItem_list ((up hrl).at N2) (by omega) (by omega) (by rw [Int.toNat_natCast]; simpa using hrx) ?_
    walk_at "goes"
    have hrI : ra r ≠ I := by
      obtain ⟨o, hm⟩ := hrl.key
      exact hne _ hm
    refine ll_set F2 N2 (up hrl) (by omega) (by omega) ?_
    intro h3 F3 N3 R3
    walk_at "goes"
    rw [rel_cons (by simp; exact Ne.symm hrI)] at N3 R3
    refine endO_next rfl F3 N3 (fun p hp q => ?_) ?_
    · obtain ⟨o, hm⟩ := rel_key hp
      exact hne _ hm (List.mem_singleton.mp q)
    · refine ⟨Y1.rowV X.xin hr (R3.tail hrI) ?_ ?_, C1.sub fun o hm => rel_keep hm ?_, ⟨Z1.mh, Z1.mn, Z1.mv, Z1.mm, Z1.ms, Z1.mp⟩, hw1, ha1⟩
      · rw [← bump_row rfl hcw]
        exact ints_set hri _ _ _
      · exact fun r' _ hne' => bump_other hne'
      · have n := nes_of Y1.nd
        simpa using n.at_r r hr
  · rintro h1 tk1 m₁ news₁ F1 N1 ⟨Y1, C1, Z1, hw1, ha1⟩
    refine done h1 tk1 m₁ news₁ F1 N1 (Y1.congr fun r hr => List.map_congr_left fun c _ => ?_) C1 Z1 hw1 ha1
    simp [bumpTo, bump, hr]
end
end

-- M2
section
section
variable {w : World} {A : Around} {s : Shared} {E : Value → Shared → Prop}
/-- the least of a word's rows -/
theorem law_told {Q : Value → Shared → Prop} {scope : Scope} {tgs : List Expr} {e : Expr} {pos : Pos} (hsc : (fdAt w 343).map (·.scope) = some scope) (hst : (addSts w)[4]? = some (.Assign tgs e pos))
    {g : Heap} {L sl cl wl hf x dx bl td cel nl vl fa : Addr} {Fx news : List (Addr × Obj)} {svs : List Value} {ns : List Int} {W D P k : Nat} {cols : Nat → Nat → Nat} {ra : Nat → Addr} {cell cs : Nat → Nat → Int} {ea mk : Int} {b : List (Str × Int)} {nms : List Str} {vls : List Int} {m : Str → Option Value} {tk : Tok}
    (X : Fix w g L Fx sl cl wl hf x dx svs ns W D P cols) (Y : Mut w Fx news L x dx bl td hf cel nl vl ra W D P cell cs ea mk b nms vls) (C : LC news (L + 2) (some (.int (k : Int) tk))) (hk : k < 6)
    (F : Fr g L s.heap m) (N : News g L s.heap news) (hhd : A.handled = none)
    (done : ∀ h' tk' t, Fr g L h' m → News g L h' news → Q (.int (lmin (picks D cell (cols k))) t) { s with heap := h', toks := tk' }) :
    wpAny (model PG w) A (eval e (envX (Str.ofString "law") scope L fa (.ref 342) (cellsFrom (L + 1) scope.names []))) Q E s := by
  have hsc' : some (⟨_, _, _, _, _⟩ : Scope) = some scope := hsc
  injection hsc' with hsc'
  subst hsc'
  have hst' : some (Stmt.Assign _ (Expr.Call _ (Expr.ListComp _ _ _ _ :: _) _ _) _) = some (.Assign tgs e pos) := hst
  injection hst' with hst'
  injection hst' with e1 e2 e3
  subst e1 e2 e3
  have hD3 := X.hD
  have hW4 := X.hW.2
  obtain ⟨tD, hdep⟩ := X.depC
  walk_at "goes"
  refine b_min F X.B ?_ (by rfl) (by rfl)
  walk_at "goes"
  refine my_ListComp (by rfl) (by decide) (by rfl) (by decide) ?_
  walk_at "goes"
  refine b_range F X.B ?_ (by rfl) (by rfl)
  walk_at "goes"
  refine nC N (hdep.sub fun o hm => Y.fx _ hm) (by rfl) ?_ (by rfl) (by rfl) (by decide)
  walk_at "goes"
  refine csrc_rng (fun r y own => (∃ t, y = .int (cell r (cols k r)) t) ∧ own = []) hhd (by omega) (by rfl) (by rfl) ?_ ?_
  · intro r t C3 m₃ h3 tk3 E' hr hn hm k3
    have NI : ∀ {a : Addr} {vs : List Value}, LL news a vs → h3.IsList a vs.toArray := fun q => isList_keeps (q.at N) k3
    have c1 : h3.IsCell (L + 3) (some (.ref cel)) := cell_at (Y.celC.at N) fun o e => k3 _ o e
    have c2 : h3.IsCell (L + 5) (some (.ref cl)) := cell_at ((X.colC.sub fun o hm => Y.fx _ hm).at N) fun o e => k3 _ o e
    have c3 : h3.IsCell (L + 2) (some (.int (k : Int) tk)) := cell_at (C.at N) fun o e => k3 _ o e
    walk_at "goes"
    refine sub_list (NI Y.celL) (by omega) (by omega) (v := .ref (ra r)) (by rw [Int.toNat_natCast]; simp [hr]) ?_ (by with_unfolding_all rfl)
    walk_at "goes"
    obtain ⟨cvs, hcl, hcv⟩ := X.clI
    obtain ⟨lk, lvs, hlk, hlkl, hli⟩ := hcv k hk
    refine sub_list (NI (hcl.sub fun o hm => Y.fx _ hm)) (by omega) (by omega) (by rw [Int.toNat_natCast]; exact hlk) ?_ (by with_unfolding_all rfl)
    walk_at "goes"
    obtain ⟨tc, hcx⟩ := hli.get r ((cols k r : Nat) : Int) (by simp [hr])
    refine sub_list (NI (hlkl.sub fun o hm => Y.fx _ hm)) (by omega) (by omega) (by rw [Int.toNat_natCast]; exact hcx) ?_ (by with_unfolding_all rfl)
    obtain ⟨rvs, hrl, hri⟩ := Y.row r hr
    have hcw := X.cw k hk r hr
    obtain ⟨tr2, hrx⟩ := hri.get (cols k r) (cell r (cols k r)) (by simp [hcw])
    refine sub_list (NI hrl) (by omega) (by omega) (by rw [Int.toNat_natCast]; exact hrx) ?_ (by with_unfolding_all rfl)
    exact eltEnd_keeps hn ⟨_, rfl⟩ ⟨h3, _, rfl, fun _ _ e => e⟩
  · intro h3 I tk3 hI k3
    refine finV_plain _ k3 (fun b hb => by rw [List.mem_singleton.mp hb]; exact hI) ?_
    intro D4 h4 tk4 hmade k4
    obtain ⟨ys, hD4, hyl, hyv, hyn⟩ := hmade
    have k4 : ∀ b o, s.heap.get? b = some o → h4.get? b = some o := k4
    have F4 := F.keeps k4
    have N4 := N.grown k4
    walk_at "goes"
    refine min_list_N hhd F4 N4 (lst_list hD4) (ints_of hyl hyv) (by simp; omega) ?_
    intro h5 M t5 tk5 F5 N5 hM hle
    rw [show M = lmin (picks D cell (cols k)) from lmin_eq hM hle]
    exact done h5 tk5 t5 F5 N5
end
end

-- M3
section
section
variable {w : World} {A : Around} {s : Shared} {E : Value → Shared → Prop}
theorem strs_append {vs : List Value} {ys : List Str} (h : StrsAre vs ys) (k : Str) (t : Tok) : StrsAre (vs ++ [.str k t]) (ys ++ [k]) := by
  induction h with
  | nil => exact .cons _ _ .nil
  | cons _ _ _ ih => exact .cons _ _ ih
theorem strs_erase {vs : List Value} {ys : List Str} (h : StrsAre vs ys) : ∀ i, StrsAre (vs.eraseIdx i) (ys.eraseIdx i) := by
  induction h with
  | nil => intro i; exact .nil
  | cons _ _ l ih =>
    intro i
    cases i with
    | zero => exact l
    | succ i => exact .cons _ _ (ih i)
theorem ints_erase {vs : List Value} {ys : List Int} (h : IntsAre vs ys) : ∀ i, IntsAre (vs.eraseIdx i) (ys.eraseIdx i) := by
  induction h with
  | nil => intro i; exact .nil
  | cons _ _ l ih =>
    intro i
    cases i with
    | zero => exact l
    | succ i => exact .cons _ _ (ih i)
theorem ints_snoc {vs : List Value} {ys : List Int} (h : IntsAre vs ys) (k : Int) (t : Tok) : IntsAre (vs ++ [.int k t]) (ys ++ [k]) := by
  induction h with
  | nil => exact .cons _ _ .nil
  | cons _ _ _ ih => exact .cons _ _ ih
set_option maxHeartbeats 8000000 in
/-- the law's own book -/
theorem law_book {Q : Flow → Shared → Prop} {scope : Scope} {test : Expr} {bd oe : List Stmt} {pos : Pos} (hsc : (fdAt w 343).map (·.scope) = some scope) (hst : (addSts w)[7]? = some (.If test bd oe pos))
    {g : Heap} {L sl cl wl hf x dx bl td cel nl vl fa : Addr} {Fx news : List (Addr × Obj)} {svs : List Value} {ns : List Int} {W D P : Nat} {cols : Nat → Nat → Nat} {ra : Nat → Addr} {cell cs : Nat → Nat → Int} {ea mks sums mk v : Int} {b bs : List (Str × Int)} {key : Str} {m : Str → Option Value} {tw tt : Tok}
    (X : Fix w g L Fx sl cl wl hf x dx svs ns W D P cols) (Y : Mut w Fx news L x dx bl td hf cel nl vl ra W D P cell cs ea mks bs (b.map (·.1)) (b.map (·.2))) (Z : Loc m x nl vl P sums mk) (hbP : b.length ≤ P) (hbn : (b.map (·.1)).Nodup)
    (F : Fr g L s.heap m) (N : News g L s.heap news) (hword : m (Str.ofString "word") = some (.str key tw)) (htold : m (Str.ofString "told") = some (.int v tt)) (hhd : A.handled = none)
    (done : ∀ h' tk' m' news', Fr g L h' m' → News g L h' news' → Mut w Fx news' L x dx bl td hf cel nl vl ra W D P cell cs ea mks bs ((bookStep P b mk key v).1.map (·.1)) ((bookStep P b mk key v).1.map (·.2)) → Loc m' x nl vl P sums (bookStep P b mk key v).2 → Q .next { s with heap := h', toks := tk' }) :
    wpAny (model PG w) A (exec (.If test bd oe pos) (envX (Str.ofString "law") scope L fa (.ref 342) (cellsFrom (L + 1) scope.names []))) Q E s := by
  have hsc' : some (⟨_, _, _, _, _⟩ : Scope) = some scope := hsc
  injection hsc' with hsc'
  subst hsc'
  have hst' : some (Stmt.If (Expr.Compare _ _ _ _) (_ :: _) (Stmt.If _ _ _ _ :: _) _) = some (.If test bd oe pos) := hst
  injection hst' with hst'
  injection hst' with e1 e2 e3 e4
  subst e1 e2 e3 e4
  have hP3 := X.hP
  obtain ⟨nvs, hnl, hnv⟩ := Y.nam
  obtain ⟨vvs, hvl, hvv⟩ := Y.val
  have hnlen : nvs.length = b.length := by rw [strs_len hnv, List.length_map]
  have hvlen : vvs.length = b.length := by rw [hvv.length, List.length_map]
  have hmn := Z.mn
  have hmv := Z.mv
  obtain ⟨tmk, hmm⟩ := Z.mm
  obtain ⟨tP, hmp⟩ := Z.mp
  have n := nes_of Y.nd
  walk_at "goes"
  refine in_list_strs (hnl.at N) hnv ?_
  rw [any_names]
  by_cases hin : inBook b key = true
  · have hbs : bookStep P b mk key v = (upsert b key v, mk) := by unfold bookStep; split <;> simp [hin]
    rw [hbs] at done
    rw [hin]
    walk_at "goes"
    refine wpAny_Assign_Subscript ?_ (by with_unfolding_all rfl)
    walk_at "goes"
    refine ll_method N hnl PySem.F.slot_list_index PySem.F.type_list_index ?_
    refine callWith_method1 ?_ (by with_unfolding_all rfl) (by with_unfolding_all rfl)
    walk_at "goes"
    have hmem := mem_of_in hin
    have hidx : (b.map (·.1)).idxOf key < b.length := by have := List.idxOf_lt_length_of_mem hmem; rwa [List.length_map] at this
    refine index_strs (hnl.at N) hnv (by rw [List.length_map]; omega) (idxOf_get hmem) (fun i y hi e => idxOf_first hi e) ?_
    walk_at "goes"
    refine ll_set F N hvl (by omega) (by omega) ?_
    intro h1 F1 N1 V1
    walk_at "goes"
    refine done h1 _ m _ F1 N1 ?_ Z
    rw [upsert_fst hin, upsert_snd hbn hin]
    exact Y.valV X.xin V1 (ints_set hvv _ _ _)
  · have hin' : inBook b key = false := by simpa using hin
    rw [hin']
    walk_at "goes"
    refine b_len F X.B ?_ (by rfl) (by rfl)
    walk_at "goes"
    refine call_len_list (hnl.at N) (by rw [List.size_toArray]; omega) ?_
    rw [List.size_toArray, hnlen]
    walk_at "goes"
    by_cases hroomy : b.length < P
    · have hbs : bookStep P b mk key v = (b ++ [(key, v)], mk) := by unfold bookStep; rw [if_pos hroomy, upsert_out hin']
      rw [hbs] at done
      refine lt_T (by omega) ?_
      walk_at "goes"
      refine wpAny_Expr_any ?_ (by with_unfolding_all rfl) (by with_unfolding_all rfl)
      walk_at "goes"
      refine ll_method N hnl PySem.F.slot_list_append PySem.F.type_list_append ?_
      refine callWith_method1 ?_ (by with_unfolding_all rfl) (by with_unfolding_all rfl)
      walk_at "goes"
      refine ll_append F N hnl (by omega) ?_
      intro h1 F1 N1 V1
      have Y1 := Y.namV X.xin V1 (strs_append hnv key tw)
      have hvl1 : LL (rel [nl] h1 news) vl vvs := hvl.sub fun o hm => rel_keep hm (by simpa using n.nl_vl.symm)
      generalize hq1 : rel [nl] h1 news = news1 at *
      refine cut_state (s := s) (h := h1) ?_
      intro tk1
      walk_at "go"
      refine wpAny_Expr_any ?_ (by with_unfolding_all rfl) (by with_unfolding_all rfl)
      walk_at "goes"
      refine ll_method N1 hvl1 PySem.F.slot_list_append PySem.F.type_list_append ?_
      refine callWith_method1 ?_ (by with_unfolding_all rfl) (by with_unfolding_all rfl)
      walk_at "goes"
      refine ll_append F1 N1 hvl1 (by omega) ?_
      intro h2 F2 N2 V2
      walk_at "goes"
      refine done h2 _ m _ F2 N2 ?_ Z
      rw [List.map_append, List.map_append]
      exact Y1.valV X.xin V2 (ints_snoc hvv v tt)
    · refine lt_F (by omega) ?_
      walk_at "goes"
      by_cases hgt : mk < v
      · have hbs : bookStep P b mk key v = (dropLeast (b ++ [(key, v)]), lmin ((dropLeast (b ++ [(key, v)])).map (·.2))) := by unfold bookStep; rw [if_neg hroomy, if_neg hin, if_pos hgt]
        rw [hbs] at done
        refine gt_T hgt ?_
        walk_at "goes"
        refine wpAny_Expr_any ?_ (by with_unfolding_all rfl) (by with_unfolding_all rfl)
        walk_at "goes"
        refine ll_method N hnl PySem.F.slot_list_append PySem.F.type_list_append ?_
        refine callWith_method1 ?_ (by with_unfolding_all rfl) (by with_unfolding_all rfl)
        walk_at "goes"
        refine ll_append F N hnl (by omega) ?_
        intro h1 F1 N1 V1
        have hnv1 := strs_append hnv key tw
        have Y1 := Y.namV X.xin V1 hnv1
        have hvl1 : LL (rel [nl] h1 news) vl vvs := hvl.sub fun o hm => rel_keep hm (by simpa using n.nl_vl.symm)
        generalize hq1 : rel [nl] h1 news = news1 at *
        refine cut_state (s := s) (h := h1) ?_
        intro tk1
        walk_at "go"
        refine wpAny_Expr_any ?_ (by with_unfolding_all rfl) (by with_unfolding_all rfl)
        walk_at "goes"
        refine ll_method N1 hvl1 PySem.F.slot_list_append PySem.F.type_list_append ?_
        refine callWith_method1 ?_ (by with_unfolding_all rfl) (by with_unfolding_all rfl)
        walk_at "goes"
        refine ll_append F1 N1 hvl1 (by omega) ?_
        intro h2 F2 N2 V2
        have hvv2 := ints_snoc hvv v tt
        have Y2 := Y1.valV X.xin V2 hvv2
        have V1' : LL (rel [vl] h2 news1) nl (nvs ++ [.str key tw]) := V1.sub fun o hm => rel_keep hm (by simpa using n.nl_vl)
        generalize hq2 : rel [vl] h2 news1 = news2 at *
        refine cut_state (s := s) (h := h2) ?_
        intro tk2
        have e1 : b.map (·.1) ++ [key] = (b ++ [(key, v)]).map (·.1) := by rw [List.map_append]; rfl
        have e2 : b.map (·.2) ++ [v] = (b ++ [(key, v)]).map (·.2) := by rw [List.map_append]; rfl
        rw [e1] at hnv1 Y2
        rw [e2] at hvv2 Y2
        have hb6 : (b ++ [(key, v)]).length = b.length + 1 := by rw [List.length_append, List.length_singleton]
        have hne6 : b ++ [(key, v)] ≠ [] := by simp
        generalize hb6e : b ++ [(key, v)] = b6 at *
        have hne6' : b6.map (·.2) ≠ [] := by simpa using hne6
        walk_at "goes"
        refine ll_method N2 V2 PySem.F.slot_list_index PySem.F.type_list_index ?_
        refine callWith_method1 ?_ (by with_unfolding_all rfl) (by with_unfolding_all rfl)
        walk_at "goes"
        refine b_min F2 X.B ?_ (by rfl) (by rfl)
        walk_at "goes"
        refine min_list_N hhd F2 N2 (V2.at N2) hvv2 (by rw [List.length_map]; omega) ?_
        intro h3 M tM tk3 F3 N3 hM hle
        rw [show M = lmin (b6.map (·.2)) from lmin_eq hM hle]
        refine cut_state (s := s) (h := h3) ?_
        intro tk3'
        walk_at "goes"
        refine index_ints (V2.at N3) hvv2 (by rw [List.length_map]; omega) (lmin_mem hne6') ?_
        have hil := leastIdx_lt hne6'
        rw [List.length_map] at hil
        rw [show (b6.map (·.2)).idxOf (lmin (b6.map (·.2))) = leastIdx (b6.map (·.2)) from rfl]
        generalize hix : leastIdx (b6.map (·.2)) = ix at *
        refine storeX_L F3 N3 ?_ (by rfl) (by rfl)
        intro h4 F4 N4
        refine cut_state (s := s) (h := h4) ?_
        intro tk4
        walk_at "go"
        refine wpAny_Expr_any ?_ (by with_unfolding_all rfl) (by with_unfolding_all rfl)
        walk_at "goes"
        refine ll_method N4 V1' PySem.F.slot_list_pop PySem.F.type_list_pop ?_
        refine callWith_method1 ?_ (by with_unfolding_all rfl) (by with_unfolding_all rfl)
        walk_at "goes"
        have hnl6 : (nvs ++ [Value.str key tw]).length = b6.length := by rw [strs_len hnv1, List.length_map]
        have hvl6 : (vvs ++ [Value.int v tt]).length = b6.length := by rw [hvv2.length, List.length_map]
        refine ll_pop F4 N4 V1' (List.getElem?_eq_getElem (show ix < (nvs ++ [Value.str key tw]).length by omega)) (by omega) ?_
        intro h5 F5 N5 V5
        have hnv5 := strs_erase hnv1 ix
        have Y5 := Y2.namV X.xin V5 hnv5
        have V2' : LL (rel [nl] h5 news2) vl (vvs ++ [.int v tt]) := V2.sub fun o hm => rel_keep hm (by simpa using n.nl_vl.symm)
        generalize hq5 : rel [nl] h5 news2 = news5 at *
        refine cut_state (s := s) (h := h5) ?_
        intro tk5
        walk_at "go"
        refine wpAny_Expr_any ?_ (by with_unfolding_all rfl) (by with_unfolding_all rfl)
        walk_at "goes"
        refine ll_method N5 V2' PySem.F.slot_list_pop PySem.F.type_list_pop ?_
        refine callWith_method1 ?_ (by with_unfolding_all rfl) (by with_unfolding_all rfl)
        walk_at "goes"
        refine ll_pop F5 N5 V2' (List.getElem?_eq_getElem (show ix < (vvs ++ [Value.int v tt]).length by omega)) (by omega) ?_
        intro h6 F6 N6 V6
        have hvv6 := ints_erase hvv2 ix
        have Y6 := Y5.valV X.xin V6 hvv6
        generalize hq6 : rel [vl] h6 news5 = news6 at *
        refine cut_state (s := s) (h := h6) ?_
        intro tk6
        have e3 : (b6.map (·.1)).eraseIdx ix = (dropLeast b6).map (·.1) := by rw [dropLeast_fst, hix]
        have e4 : (b6.map (·.2)).eraseIdx ix = (dropLeast b6).map (·.2) := by rw [dropLeast_snd, hix]
        rw [e3, e4] at Y6
        rw [e4] at hvv6
        have hdl := dropLeast_length hne6
        walk_at "goes"
        refine b_min F6 X.B ?_ (by rfl) (by rfl)
        walk_at "goes"
        refine min_list_N hhd F6 N6 (V6.at N6) hvv6 (by rw [List.length_map]; omega) ?_
        intro h7 M7 tM7 tk7 F7 N7 hM7 hle7
        rw [show M7 = lmin ((dropLeast b6).map (·.2)) from lmin_eq hM7 hle7]
        refine storeX_L F7 N7 ?_ (by rfl) (by rfl)
        intro h8 F8 N8
        walk_at "goes"
        exact done h8 _ _ news6 F8 N8 Y6 ⟨Z.mh, Z.mn, Z.mv, ⟨tM7, by rfl⟩, Z.ms, Z.mp⟩
      · have hbs : bookStep P b mk key v = (b, mk) := by unfold bookStep; rw [if_neg hroomy, if_neg hin, if_neg hgt]
        rw [hbs] at done
        refine gt_F hgt ?_
        walk_at "goes"
        exact done s.heap _ m _ F N Y Z
end
end

-- M4
section
section
variable {w : World} {A : Around} {s : Shared} {E : Value → Shared → Prop}
theorem bne_self_int (a : Int) : (a != a) = false := by simp
set_option maxHeartbeats 8000000 in
/-- the sketch adds and checks as told -/
theorem law_add {Q : Flow → Shared → Prop} {scope : Scope} {test : Expr} {bd oe : List Stmt} {pos : Pos} (hsc : (fdAt w 343).map (·.scope) = some scope) (hst : (addSts w)[6]? = some (.If test bd oe pos))
    {g : Heap} {L sl cl wl hf x dx bl td cel nl vl fa : Addr} {Fx news : List (Addr × Obj)} {svs : List Value} {ns : List Int} {W D P k : Nat} {cols : Nat → Nat → Nat} {ra : Nat → Addr} {cell cell' : Nat → Nat → Int} {ea mks sums mk amt : Int} {b : List (Str × Int)} {nms : List Str} {vls : List Int} {key : Str} {m : Str → Option Value} {tw tt ta : Tok}
    (X : Fix w g L Fx sl cl wl hf x dx svs ns W D P cols) (Y : Mut w Fx news L x dx bl td hf cel nl vl ra W D P cell' cell ea mks b nms vls) (Z : Loc m x nl vl P sums mk) (hk : k < 6) (hkey : wd6[k]? = some key) (hbP : b.length ≤ P)
    (hbd : ∀ r < D, -2147483648 ≤ cell r (cols k r) + amt ∧ cell r (cols k r) + amt ≤ 2147483647) (hea : ea + amt ≤ 9223372036854775807)
    (F : Fr g L s.heap m) (N : News g L s.heap news) (hword : m (Str.ofString "word") = some (.str key tw)) (hamt : m (Str.ofString "amount") = some (.int amt ta)) (htold : m (Str.ofString "told") = some (.int (lmin (picks D (bump cell (cols k) amt) (cols k))) tt)) (hroom : A.depth < 500) (hhd : A.handled = none)
    (done : ∀ h' tk' news', Fr g L h' m → News g L h' news' → Mut w Fx news' L x dx bl td hf cel nl vl ra W D P cell' (bump cell (cols k) amt) (ea + amt) (bookStep P b mks key (lmin (picks D (bump cell (cols k) amt) (cols k)))).2 (bookStep P b mks key (lmin (picks D (bump cell (cols k) amt) (cols k)))).1 nms vls → Q .next { s with heap := h', toks := tk' }) :
    wpAny (model PG w) A (exec (.If test bd oe pos) (envX (Str.ofString "law") scope L fa (.ref 342) (cellsFrom (L + 1) scope.names []))) Q E s := by
  have hsc' : some (⟨_, _, _, _, _⟩ : Scope) = some scope := hsc
  injection hsc' with hsc'
  subst hsc'
  have hst' : some (Stmt.If (Expr.BoolOp _ (_ :: _ :: _) _) (_ :: _) _ _) = some (.If test bd oe pos) := hst
  injection hst' with hst'
  injection hst' with e1 e2 e3 e4
  subst e1 e2 e3 e4
  have hmh := Z.mh
  have hD3 := X.hD
  have hW4 := X.hW
  have hP3 := X.hP
  have n := nes_of Y.nd
  obtain ⟨H, hH, hS⟩ := X.hs k hk key hkey
  have hHs : ∀ {h : Heap} {m' : Str → Option Value} {news' : List (Addr × Obj)}, Fr g L h m' → News g L h news' → (∀ p ∈ Fx, p ∈ news') → ∀ b o, H.get? b = some o → h.get? b = some o := fun F' N' fx b o e => by
    rcases hH b o e with q | q
    · exact F'.keep _ _ q
    · exact (N' _ (fx _ q)).1
  have hxm := Y.fa _ X.xin
  have hxd : x ≠ dx := fun q => hxm (by rw [q]; exact Mut.mem9 D ra (by simp))
  have hxb : x ≠ bl := fun q => hxm (by show x ∈ _; rw [q]; exact Mut.mem9 D ra (by simp))
  have hxt : x ≠ td := fun q => hxm (by show x ∈ _; rw [q]; exact Mut.mem9 D ra (by simp))
  obtain ⟨od1, ob1, ot1, k1, k2, k3, k4, k5⟩ := id Y.sk
  have Ap : Apart g x dx bl td := ⟨(N _ k2).2.2, (N _ k3).2.2, (N _ k4).2.2, n.dx_bl, n.dx_td, n.bl_td, hxd, hxb, hxt, Y.lo⟩
  have S := Y.sk.at N
  walk_at "goes"
  refine isTrue_or ?_
  walk_at "goes"
  obtain ⟨r0, _, _, _, _, _, _, _, _, Yh⟩ := id S
  refine m_add (X.B.keeps F.keep) Yh.hI ?_
  refine callWith_F (fnAt_K (X.B.keeps F.keep) (by kernel_rfl)) ?_ (by with_unfolding_all rfl) (by with_unfolding_all rfl)
  walk_at "goes"
  refine ⟨fnAt_K (X.B.keeps F.keep) (by kernel_rfl), ?_⟩
  refine hh_add (H := H) X.B F.keep Ap S (hHs F N Y.fx) hS (X.cw k hk) (by omega) (by omega) (by omega) (by show A.depth < 650; omega) hhd hbd hea hbP (by omega) (by omega) ?_
  intro h1 tk1 t1 K1 S1
  have S1p : ∀ a ∈ [dx, bl, td], ∃ o, h1.get? a = some o := by
    obtain ⟨r, bys, kvs, tW, tD, tE, tS, tN, tM, Y1⟩ := S1
    obtain ⟨o1, o2, o3, q1, q2, q3, _⟩ := Y1.parts
    intro a ha
    simp only [List.mem_cons, List.mem_nil_iff, or_false] at ha
    rcases ha with rfl | rfl | rfl
    · exact ⟨_, q1⟩
    · exact ⟨_, q2⟩
    · exact ⟨_, q3⟩
  have N1 := rel_news N K1 S1p
  have F1 := fr_rel F N K1 (fun a ha => by
    simp only [List.mem_cons, List.mem_nil_iff, or_false] at ha
    rcases ha with rfl | rfl | rfl
    · exact ⟨_, k2⟩
    · exact ⟨_, k3⟩
    · exact ⟨_, k4⟩)
  have Y1 := Y.skV X.xin (SK.of S1 N1 (rel_keep k1 (by simp [hxd, hxb, hxt])) (by obtain ⟨o, e⟩ := S1p _ (.head _); exact ⟨o, rel_at k2 (.head _) e⟩) (by obtain ⟨o, e⟩ := S1p _ (.tail _ (.head _)); exact ⟨o, rel_at k3 (.tail _ (.head _)) e⟩) (by obtain ⟨o, e⟩ := S1p _ (.tail _ (.tail _ (.head _))); exact ⟨o, rel_at k4 (.tail _ (.tail _ (.head _))) e⟩))
  generalize hq1 : rel [dx, bl, td] h1 news = news1 at *
  refine cut_state (s := s) (h := h1) ?_
  intro tk1'
  walk_at "goes"
  refine ne_int ?_
  rw [bne_self_int]
  walk_at "goes"
  refine isTrue_or ?_
  walk_at "goes"
  obtain ⟨r1, _, _, _, _, _, _, _, _, Yh1⟩ := id S1
  refine m_check (X.B.keeps F1.keep) Yh1.hI ?_
  refine callWith_F (fnAt_K (X.B.keeps F1.keep) (by kernel_rfl)) ?_ (by with_unfolding_all rfl) (by with_unfolding_all rfl)
  walk_at "goes"
  refine ⟨fnAt_K (X.B.keeps F1.keep) (by kernel_rfl), ?_⟩
  refine hh_check (H := H) (X.B.keeps F1.keep) S1 (hHs F1 N1 Y1.fx) hS (X.cw k hk) (by omega) (by omega) (by omega) (by show A.depth < 650; omega) hhd ?_
  intro h2 tk2 t2 K2
  have F2 := F1.keeps K2.all
  have N2 := N1.grown K2.all
  refine cut_state (s := s) (h := h2) ?_
  intro tk2'
  walk_at "goes"
  refine ne_int ?_
  rw [bne_self_int]
  walk_at "goes"
  refine isTrue_or_nil ?_
  walk_at "goes"
  exact done h2 _ _ F2 N2 Y1
end
end

-- M5
section
section
variable {w : World} {A : Around} {s : Shared} {E : Value → Shared → Prop}
theorem canLay_strs : ∀ {ys : List Str}, (∀ y ∈ ys, PyData.strOk y = true) → PyData.canLayAll0 (ys.map PyData.str) = true
  | [], _ => rfl
  | y :: r, h => by simp only [List.map_cons, PyData.canLayAll0, PyData.canLay0, h y (.head _), canLay_strs fun z hz => h z (.tail _ hz), Bool.and_self]
theorem depth_strs : ∀ ys : List Str, PyData.depthAll (ys.map PyData.str) = 0
  | [] => rfl
  | _ :: r => by simp [PyData.depthAll, PyData.depth, depth_strs r]
theorem shaped_strs {ys : List Str} (h : ∀ y ∈ ys, PyData.strOk y = true) : PySem.SeqAt.shaped (.list (ys.map PyData.str)) = true := by
  simp [PySem.SeqAt.shaped, PyData.canLay0, PyData.depth, canLay_strs h, depth_strs]
theorem same_strs : ∀ ys : List Str, PySem.Spec.sameAll (ys.map PyData.str) (ys.map PyData.str) = true
  | [] => by simp [PySem.Spec.sameAll]
  | y :: r => by simp [PySem.Spec.sameAll, PySem.Spec.same, same_strs r]
theorem carried_strs {vs : List Value} {ys : List Str} (h : StrsAre vs ys) : CarriedAll vs (ys.map PyData.str) := by
  induction h with
  | nil => exact .nil
  | cons _ t _ ih => exact .cons (.str _ t) ih
theorem ne_strs_same {a c : Addr} {xs us : List Value} {ys : List Str} {Q : Value → Shared → Prop} (ha : s.heap.IsList a xs.toArray) (hb : s.heap.IsList c us.toArray) (hi : StrsAre xs ys) (hj : StrsAre us ys) (ho : ∀ y ∈ ys, PyData.strOk y = true) (hu : A.units + 64 < cLine) (h : Q (.bool false) s) :
    wpAny (model PG w) A (compareOp .NotEq (.ref a) (.ref c)) Q E s :=
  ne_dataH_same (reads_newData ha (carried_strs hi)) (reads_newData hb (carried_strs hj)) (shaped_strs ho) (shaped_strs ho) hu (PySem.SeqAt.noMix_of_shape (.list .str) rfl _ _ (list_map_has fun _ => rfl) (list_map_has fun _ => rfl)) (by rw [show PySem.Spec.same (.list (ys.map PyData.str)) (.list (ys.map PyData.str)) = true by simp only [PySem.Spec.same]; exact same_strs ys]; exact h)
theorem strs_of {vs : List Value} {ys : List Str} (hl : vs.length = ys.length) (h : ∀ (i : Nat) (v : Value), vs[i]? = some v → ∃ y t, ys[i]? = some y ∧ v = .str y t) : StrsAre vs ys := by
  induction ys generalizing vs with
  | nil => cases vs with
    | nil => exact .nil
    | cons _ _ => simp at hl
  | cons y r ih =>
    cases vs with
    | nil => simp at hl
    | cons v q =>
      obtain ⟨y', t, e, rfl⟩ := h 0 v rfl
      cases e
      exact .cons _ t (ih (by simpa using hl) fun i v' e' => h (i + 1) v' e')
theorem ints_from : ∀ {zs : List Int} {ys : List Value}, ys.length = zs.length → (∀ (i : Nat) (y : Value), ys[i]? = some y → ∃ n t, zs[i]? = some n ∧ y = .int n t) → IntsAre ys zs
  | [], [], _, _ => .nil
  | [], _ :: _, h, _ => by simp at h
  | _ :: _, [], h, _ => by simp at h
  | z :: r, y :: q, h, hv => by
    obtain ⟨n, t, e, rfl⟩ := hv 0 y rfl
    cases e
    exact .cons _ t (ints_from (by simpa using h) fun i y' e' => hv (i + 1) y' e')
set_option maxHeartbeats 8000000 in
/-- the book is told as the law's own -/
theorem law_check {Q : Flow → Shared → Prop} {scope : Scope} {st1 st2 : Stmt} (hsc : (fdAt w 343).map (·.scope) = some scope) (hst1 : (turnSts w)[2]? = some st1) (hst2 : (turnSts w)[3]? = some st2)
    {g : Heap} {L sl cl wl hf x dx bl td cel nl vl fa : Addr} {Fx news : List (Addr × Obj)} {svs : List Value} {ns : List Int} {W D P : Nat} {cols : Nat → Nat → Nat} {ra : Nat → Addr} {cell cs : Nat → Nat → Int} {sums mk : Int} {b : List (Str × Int)} {m : Str → Option Value}
    (X : Fix w g L Fx sl cl wl hf x dx svs ns W D P cols) (Y : Mut w Fx news L x dx bl td hf cel nl vl ra W D P cell cs sums mk b (b.map (·.1)) (b.map (·.2))) (Z : Loc m x nl vl P sums mk) (hbP : b.length ≤ P) (hbn : (b.map (·.1)).Nodup) (hbo : ∀ k ∈ b.map (·.1), PyData.strOk k = true)
    (F : Fr g L s.heap m) (N : News g L s.heap news) (hroom : A.depth < 500) (hhd : A.handled = none) (hun : A.units + 64 < cLine)
    (done : ∀ h' tk' news', Fr g L h' m → News g L h' news' → Mut w Fx news' L x dx bl td hf cel nl vl ra W D P cell cs sums mk b (b.map (·.1)) (b.map (·.2)) → Q .next { s with heap := h', toks := tk' }) :
    wpAny (model PG w) A (execs [st1, st2] (envX (Str.ofString "law") scope L fa (.ref 342) (cellsFrom (L + 1) scope.names []))) Q E s := by
  have hsc' : some (⟨_, _, _, _, _⟩ : Scope) = some scope := hsc
  injection hsc' with hsc'
  subst hsc'
  have hst1' : some (Stmt.Assign (_ :: _) (Expr.Attribute _ _ _) _) = some st1 := hst1
  injection hst1' with e1
  subst e1
  have hst2' : some (Stmt.If (Expr.BoolOp _ (_ :: _ :: _) _) (_ :: _) _ _) = some st2 := hst2
  injection hst2' with e2
  subst e2
  have hmh := Z.mh
  have hmn := Z.mn
  have hmv := Z.mv
  obtain ⟨tsu, hms⟩ := Z.ms
  have hP3 := X.hP
  obtain ⟨r0, bys, kvs, tW, tD, tE, tS, tN, tM, Yh⟩ := Y.sk.at N
  walk_at "goes"
  refine p_heavy_hitters (X.B.keeps F.keep) Yh.hI (by show A.depth < 890; omega) Yh.hT ?_
  intro h1 tk1 K1
  have F1 := F.keeps K1.all
  have N1 := N.grown K1.all
  have Yh1 := Yh.keeps K1.all
  walk_at "goes"
  obtain ⟨vb, hvb⟩ := Y.booC
  refine sC F1 N1 hvb (by rfl) ?_ (by rfl) (by rfl)
  intro h2 F2 N2 C2
  have Y2 := Y.booV X.xin C2
  generalize hq2 : rel [L + 4] h2 news = news2 at *
  refine cut_state (s := s) (h := h2) ?_
  intro tk2
  obtain ⟨r2, bys2, kvs2, tW2, tD2, tE2, tS2, tN2, tM2, Yh2⟩ := Y2.sk.at N2
  obtain ⟨nvs, hnl, hnv⟩ := Y2.nam
  obtain ⟨vvs, hvl, hvv⟩ := Y2.val
  have hnlen : nvs.length = b.length := by rw [strs_len hnv, List.length_map]
  have hklen := Yh2.hp.length
  obtain ⟨ep, hda⟩ := Yh2.hd.dictAt
  walk_at "goes"
  refine isTrue_or ?_
  walk_at "goes"
  refine b_list F2 X.B ?_ (by rfl) (by rfl)
  walk_at "goes"
  refine nC N2 C2 (by rfl) ?_ (by rfl) (by rfl) (by decide)
  walk_at "goes"
  refine kdl_call (kdl_dict (knd := strKind PG w) (kvs := kvs2) (ep := ep) Y2.lo) hhd hda (by rw [sizeLine_eq]; omega) ?_
  intro h3 tk3 acc c3 up3 hD3 hacc
  have F3 := F2.keeps up3
  have N3 := N2.grown up3
  have hLs : StrsAre acc.toList (b.map (·.1)) := strs_of (by rw [Array.length_toList, hacc.1, hklen, List.length_map]) (fun i v e => by
    obtain ⟨k, x', e1, e2⟩ := hacc.2 i v (by rw [← Array.getElem?_toList]; exact e)
    obtain ⟨t, rfl⟩ := Value.isStrOf_shape e2
    obtain ⟨n, t', e3, _⟩ := Yh2.hp.get e1
    exact ⟨k, t, by rw [List.getElem?_map, e3]; rfl, rfl⟩)
  generalize hD : ({ heap := h2, gens := s.gens, drawn := s.drawn, toks := tk2, os := s.os } : Shared).heap.objs.size = D3 at hD3 ⊢
  refine cut_state (s := s) (h := h3) ?_
  intro tk3'
  walk_at "goes"
  refine ne_strs_same (xs := acc.toList) ⟨_, hD3, rfl, c3, by simp⟩ (hnl.at N3) hLs hnv hbo (by show A.units + 64 < cLine; exact hun) ?_
  walk_at "goes"
  refine isTrue_or ?_
  walk_at "goes"
  refine my_ListComp (by rfl) (by decide) (by rfl) (by decide) ?_
  walk_at "goes"
  refine csrc_list (fun i y => ∃ n t, (b.map (·.2))[i]? = some n ∧ y = .int n t) hhd (hnl.at N3) (by rw [sizeLine_eq]; omega) (by rfl) (by rfl) ?_ ?_
  · intro i v C m₃ h4 tk4 E' hv hn hm up4
    obtain ⟨k, t, ek, rfl⟩ := strs_at hnv hv
    have kb : ∃ p, b[i]? = some p ∧ p.1 = k := by
      rw [List.getElem?_map] at ek
      cases e : b[i]? with
      | none => rw [e] at ek; cases ek
      | some p => rw [e] at ek; exact ⟨p, rfl, by cases ek; rfl⟩
    obtain ⟨⟨k', n⟩, ep', rfl⟩ := kb
    obtain ⟨tv, ev⟩ := Yh2.hp.at ep'
    have hd4 : h4.DictOf (strKind PG w) td kvs2 := (Yh2.hd.keep up3).keep up4
    have nd : (kvs2.map (·.1)).Nodup := by rw [Yh2.hp.keys]; exact hbn
    have c4 : h4.IsCell (L + 4) (some (.ref td)) := cell_at (C2.at N3) fun o e => up4 _ o e
    walk_at "goes"
    refine tail_any hd4.typeIs slot_dict_getitem.lookup (wpAny_getItem_of (strKind_is PG w k' t) hd4.mapOf (valueAt_of_get nd ev) ?_) (by with_unfolding_all rfl)
    exact ⟨⟨n, tv, by rw [List.getElem?_map, ep']; rfl, rfl⟩, h4, _, rfl, fun _ _ e => e⟩
  · intro h4 up4
    refine finV_plain _ up4 (fun b hb => by rw [List.mem_singleton.mp hb]; exact get?_none_ge (Nat.le_refl _)) ?_
    intro D5 h5 tk5 hmade k5
    obtain ⟨ys, hD5, hyl, hyv, hyn⟩ := hmade
    have F5 := F3.keeps k5
    have N5 := N3.grown k5
    have hyi : IntsAre ys (b.map (·.2)) := by
      have hyl' : ys.length = (b.map (·.2)).length := by rw [hyl, hnlen, List.length_map]
      exact ints_from hyl' hyv
    refine cut_state (s := s) (h := h5) ?_
    intro tk5'
    walk_at "goes"
    refine ne_intsK (lst_list hD5) hyi (hvl.at N5) hvv (by show A.units + 64 < cLine; exact hun) ?_
    rw [show (!decide (b.map (·.2) = b.map (·.2))) = false by simp]
    walk_at "goes"
    refine isTrue_or ?_
    walk_at "goes"
    have Yh5 := (Yh2.keeps up3).keeps k5
    refine p_elements_added (X.B.keeps F5.keep) Yh5.hI (by show A.depth < 890; omega) Yh5.hE ?_
    intro h6 tk6 K6
    have F6 := F5.keeps K6.all
    have N6 := N5.grown K6.all
    refine cut_state (s := s) (h := h6) ?_
    intro tk6'
    walk_at "goes"
    refine ne_int ?_
    rw [bne_self_int]
    walk_at "goes"
    refine isTrue_or_nil ?_
    walk_at "goes"
    exact done h6 _ _ F6 N6 Y2
end
end

-- M6
section
section
variable {w : World} {A : Around} {s : Shared} {E : Value → Shared → Prop}
theorem cBi {env : Env} {x : Str} {pos : Pos} {v : Value} {Q : Value → Shared → Prop} (B : Bs w s.heap) (hg : env.globals = mainGlobals) (hbu : env.builtins = builtinsNs) (e : nsIn (KK w) mainGlobals x = some none) (hv : bootBuiltins x = some v) (hn : x ≠ "__name__") (h : Q v s)
    (hk : env.scope.kind = .function) (hx : env.kindOf x = some .globalImplicit) (hd : (x == ("__debug__" : Str)) = false) : wpAny (model PG w) A (eval (.Name x pos) env) Q E s := by
  obtain ⟨X, p, loose, mean, mg, mb, T⟩ := B
  exact Name_function_global hk hx (loadGlobal_builtin (env := env) (hg ▸ T.g) (mg_none_of X T.g e) (hbu ▸ T.b) ((T.builtins x hn).trans hv) h) hd
theorem cGl {env : Env} {x : Str} {pos : Pos} {v : Value} {Q : Value → Shared → Prop} (B : Bs w s.heap) (hg : env.globals = mainGlobals) (e : nsIn (KK w) mainGlobals x = some (some v)) (h : Q v s)
    (hk : env.scope.kind = .function) (hx : env.kindOf x = some .globalImplicit) (hd : (x == ("__debug__" : Str)) = false) : wpAny (model PG w) A (eval (.Name x pos) env) Q E s := by
  obtain ⟨X, p, loose, mean, mg, mb, T⟩ := B
  exact Name_function_global hk hx (loadGlobal_global (env := env) (hg ▸ T.g) (mg_of X T.g e) h) hd
end
end

-- M7
section
section
variable {w : World} {A : Around} {s : Shared} {E : Value → Shared → Prop}
set_option maxHeartbeats 8000000 in
/-- cells = [[0 ...] ...] -/
theorem law_cells {Q : Flow → Shared → Prop} {scope : Scope} {st : Stmt} (hsc : (fdAt w 343).map (·.scope) = some scope) (hst : (lawSts w)[8]? = some st ∨ (clearSts w)[1]? = some st)
    {g : Heap} {L fa : Addr} {news : List (Addr × Obj)} {W D : Nat} {m : Str → Option Value} {tD tW : Tok} {v0 : Option Value} (B : Bs w g) (F : Fr g L s.heap m) (N : News g L s.heap news)
    (hdep : LC news (L + 6) (some (.int (D : Int) tD))) (hwid : LC news (L + 7) (some (.int (W : Int) tW))) (hcc : LC news (L + 3) v0) (hW : W ≤ 8) (hD : D ≤ 8) (hhd : A.handled = none)
    (done : ∀ h' tk' cel (ra : Nat → Addr) robj, Fr g L h' m → News g L h' ((cel, LCg.lst ((List.range D).map fun r => Value.ref (ra r))) :: (robj ++ rel [L + 3] h' news)) → LC (rel [L + 3] h' news) (L + 3) (some (.ref cel)) →
      (∀ r < D, ∃ zs, (ra r, LCg.lst zs) ∈ robj ∧ IntsAre zs ((List.range W).map fun _ => 0)) → (∀ r < D, ∀ r' < D, r ≠ r' → ra r ≠ ra r') → s.heap.get? cel = none → (∀ r < D, s.heap.get? (ra r) = none ∧ ra r ≠ cel) → Q .next { s with heap := h', toks := tk' }) :
    wpAny (model PG w) A (exec st (envX (Str.ofString "law") scope L fa (.ref 342) (cellsFrom (L + 1) scope.names []))) Q E s := by
  have hsc' : some (⟨_, _, _, _, _⟩ : Scope) = some scope := hsc
  injection hsc' with hsc'
  subst hsc'
  rcases hst with hst | hst
  all_goals
    have hst' : some (Stmt.Assign (_ :: _) (Expr.ListComp (Expr.ListComp _ _ _ _) _ _ _) _) = some st := hst
    injection hst' with e1
    subst e1
    refine wpAny_Assign_Name ?_ (by with_unfolding_all rfl)
    refine my_ListComp (by rfl) (by decide) (by rfl) (by decide) ?_
    walk_at "goes"
    refine b_range F B ?_ (by rfl) (by rfl)
    walk_at "goes"
    refine nC N hdep (by rfl) ?_ (by rfl) (by rfl) (by decide)
    walk_at "goes"
    refine csrc_rng (fun r y own => ∃ l zs, y = Value.ref l ∧ own = [(l, LCg.lst zs)] ∧ IntsAre zs ((fun _ => (List.range W).map fun _ => (0 : Int)) r)) hhd (by omega) (by rfl) (by rfl) ?_ ?_
    · intro r t C m₃ h tk E' hr hn hm up
      have Bh : Bs w h := (B.keeps F.keep).keeps up
      have c7 : h.IsCell (L + 7) (some (.int (W : Int) tW)) := cell_at (hwid.at N) fun o e => up _ o e
      refine my_ListComp (by rfl) (by decide) (by rfl) (by decide) ?_
      walk_at "goes"
      refine cBi Bh (by rfl) (by rfl) (by kernel_rfl) (by boot_by_name) (by decide) ?_ (by rfl) (by with_unfolding_all rfl) (by decide)
      walk_at "goes"
      refine csrc_rng (fun c y own => (∃ t, y = .int 0 t) ∧ own = []) hhd (by omega) (by rfl) (by rfl) ?_ ?_
      · intro c t' C' m₄ h' tk' E'' hc hn' hm' up'
        walk_at "goes"
        exact eltEnd_keeps hn' ⟨_, rfl⟩ ⟨h', _, rfl, fun _ _ e => e⟩
      · intro h' I' tk' hI' up'
        refine finV_plain _ up' (fun b hb => by rw [List.mem_singleton.mp hb]; exact hI') ?_
        intro D5 h5 tk5 hmade k5
        obtain ⟨zs, hD5, hzl, hzv, hzn⟩ := hmade
        have k5 : ∀ b o, h.get? b = some o → h5.get? b = some o := k5
        have hzn : h.get? D5 = none := hzn
        exact ⟨h5, _, m₃, [(D5, LCg.lst zs)], rfl, hn.at' fun o e => k5 _ o e, fun b o _ e => k5 _ _ e, ⟨D5, zs, rfl, rfl, ints_of hzl hzv⟩, fun p hp => by rw [List.mem_singleton.mp hp]; exact ⟨hzn, hD5⟩, by simp⟩
    · intro h1 I tk1 hI up1
      refine finV_rows F N hI up1 ?_
      intro h2 tk2 cel ra robj F2 N2 r2 r3 r5 r6 up2 r7
      have hm0 : LC ((cel, LCg.lst ((List.range D).map fun r => Value.ref (ra r))) :: (robj ++ news)) (L + 3) v0 := hcc.sub fun o hm => .tail _ (List.mem_append_right _ hm)
      obtain ⟨oc, hm⟩ := hcc.key
      have hc3 := (N _ hm).1
      refine sC F2 N2 hm0 (by rfl) ?_ (by rfl) (by rfl)
      intro h3 F3 N3 C3
      have ncel : (L + 3 : Nat) ≠ cel := fun q => by rw [show ((L + 3, oc) : Addr × Obj).1 = cel from q, r5] at hc3; cases hc3
      have nrob : ∀ p ∈ robj, p.1 ≠ L + 3 := fun p hp q => by
        obtain ⟨i, hi, e⟩ := r7 p hp
        have := (r6 i hi).1
        rw [← e, q] at this
        rw [show ((L + 3, oc) : Addr × Obj).1 = L + 3 from rfl, this] at hc3; cases hc3
      have er : rel [L + 3] h3 robj = robj := by
        unfold rel
        refine (List.map_congr_left fun p hp => ?_).trans (List.map_id _)
        rw [if_neg (by simpa using nrob p hp)]; rfl
      rw [rel_cons (by simpa using Ne.symm ncel)] at N3 C3
      rw [show rel [L + 3] h3 (robj ++ news) = robj ++ rel [L + 3] h3 news by unfold rel at er ⊢; rw [List.map_append, er]] at N3 C3
      refine done h3 _ cel ra robj F3 N3 ?_ r2 r3 r5 r6
      · obtain ⟨o, hm', hd'⟩ := C3
        refine ⟨o, ?_, hd'⟩
        rcases List.mem_cons.mp hm' with e | hm'
        · exact absurd (congrArg Prod.fst e) ncel
        · rcases List.mem_append.mp hm' with hm' | hm'
          · exact absurd rfl (nrob _ hm')
          · exact hm'
end
end

-- M8
section
abbrev resetM (m : Str → Option Value) (nl vl : Addr) (t1 t2 : Tok) : Str → Option Value := fun y => if y = Str.ofString "sums" then some (.int 0 t2) else if y = Str.ofString "mark" then some (.int 0 t1) else if y = Str.ofString "values" then some (.ref vl) else if y = Str.ofString "names" then some (.ref nl) else m y
section
variable {w : World} {A : Around} {s : Shared} {E : Value → Shared → Prop}
set_option maxHeartbeats 8000000 in
theorem law_reset {Q : Flow → Shared → Prop} {scope : Scope} {st : Stmt} (hsc : (fdAt w 343).map (·.scope) = some scope) (hst : (lawSts w)[9]? = some st ∨ (clearSts w)[2]? = some st)
    {g : Heap} {L fa : Addr} {news : List (Addr × Obj)} {m : Str → Option Value} (F : Fr g L s.heap m) (N : News g L s.heap news) (hhd : A.handled = none)
    (done : ∀ h' tk' nl vl t1 t2, Fr g L h' (resetM m nl vl t1 t2) → News g L h' ((vl, LCg.lst []) :: (nl, LCg.lst []) :: news) → s.heap.get? nl = none → s.heap.get? vl = none → nl ≠ vl → Q .next { s with heap := h', toks := tk' }) :
    wpAny (model PG w) A (exec st (envX (Str.ofString "law") scope L fa (.ref 342) (cellsFrom (L + 1) scope.names []))) Q E s := by
  have hsc' : some (⟨_, _, _, _, _⟩ : Scope) = some scope := hsc
  injection hsc' with hsc'
  subst hsc'
  rcases hst with hst | hst
  all_goals
    have hst' : some (Stmt.Assign [Expr.Tuple (_ :: _) _ _] (Expr.Tuple (_ :: _) _ _) _) = some st := hst
    injection hst' with e1
    subst e1
    refine Assign_Tuple ?_ (by with_unfolding_all rfl) (by with_unfolding_all rfl)
    refine Tuple_ ?_
    walk_at "goes"
    refine List_ ?_
    walk_at "goes"
    refine newList_NK F N ?_ (by rw [sizeLine_eq]; simp)
    intro h1 F1 N1 up1
    have z1 : s.heap.get? s.heap.objs.size = none := get?_none_ge (Nat.le_refl _)
    have e1 := (N1 _ (.head _)).1
    walk_at "goes"
    refine List_ ?_
    walk_at "goes"
    refine newList_N F1 N1 ?_ (by rw [sizeLine_eq]; simp)
    intro h2 F2 N2
    have z2 : h1.get? h1.objs.size = none := get?_none_ge (Nat.le_refl _)
    have hne : s.heap.objs.size ≠ h1.objs.size := fun q => by
      have e1' : h1.get? s.heap.objs.size = some _ := e1
      rw [q, z2] at e1'; cases e1'
    walk_at "goes"
    refine newTuple_N F2 N2 ?_ (by rw [sizeLine_eq]; simp)
    intro h3 F3 N3
    have ht3 := (N3 _ (.head _)).1
    replace N3 : News g L h3 ((h1.objs.size, LCg.lst []) :: (s.heap.objs.size, LCg.lst []) :: news) := fun p hp => N3 p (.tail _ hp)
    refine unpackN_ F3 N3 ⟨_, ht3, rfl, _, rfl⟩ hhd (by rfl) (by rfl) ?_
    intro h4 F4 N4
    refine assignInOrder_cons ?_
    refine wpAny_assign_Name ?_
    refine storeX_L F4 N4 ?_ (by rfl) (by rfl)
    intro h5 F5 N5
    refine assignInOrder_cons ?_
    refine wpAny_assign_Name ?_
    refine storeX_L F5 N5 ?_ (by rfl) (by rfl)
    intro h6 F6 N6
    refine assignInOrder_cons ?_
    refine wpAny_assign_Name ?_
    refine storeX_L F6 N6 ?_ (by rfl) (by rfl)
    intro h7 F7 N7
    refine assignInOrder_cons ?_
    refine wpAny_assign_Name ?_
    refine storeX_L F7 N7 ?_ (by rfl) (by rfl)
    intro h8 F8 N8
    refine assignInOrder_nil ?_
    exact done h8 _ s.heap.objs.size h1.objs.size _ _ F8 N8 z1 (by
      cases q : s.heap.get? h1.objs.size with
      | none => rfl
      | some o => rw [up1 _ _ q] at z2; cases z2) hne
end
end

-- M9
section
theorem bookStep_mem {P : Nat} {b : List (Str × Int)} {mk v : Int} {k : Str} : ∀ x ∈ (bookStep P b mk k v).1.map (·.1), x ∈ b.map (·.1) ∨ x = k := by
  have up : ∀ x ∈ (upsert b k v).map (·.1), x ∈ b.map (·.1) ∨ x = k := fun x hx => by
    by_cases hin : inBook b k = true
    · rw [upsert_fst hin] at hx; exact .inl hx
    · rw [upsert_out (by simpa using hin), List.map_append] at hx
      rcases List.mem_append.mp hx with h | h
      · exact .inl h
      · exact .inr (by simpa using h)
  intro x hx
  unfold bookStep at hx
  split at hx
  · exact up x hx
  · split at hx
    · exact up x hx
    · split at hx
      · rw [dropLeast_fst] at hx
        have := List.mem_of_mem_eraseIdx hx
        rw [List.map_append] at this
        rcases List.mem_append.mp this with h | h
        · exact .inl h
        · exact .inr (by simpa using h)
      · exact .inl hx
/-- plain facts of the law's numbers after i turns -/
structure Pl (i P : Nat) (cell : Nat → Nat → Int) (sums : Int) (b : List (Str × Int)) : Prop where
  hb : b.length ≤ P
  hn : (b.map (·.1)).Nodup
  ho : ∀ k ∈ b.map (·.1), PyData.strOk k = true
  hc : ∀ r c, -(5 * (i : Int)) ≤ cell r c ∧ cell r c ≤ 5 * (i : Int)
  hs : -(5 * (i : Int)) ≤ sums ∧ sums ≤ 5 * (i : Int)
theorem fdivN (a k : Nat) (hk : 0 < k) : Int.fdiv (a : Int) (k : Int) = ((a / k : Nat) : Int) := by rw [fdiv_eq _ (by omega)]; exact (Int.natCast_ediv a k).symm
theorem fmodN (a k : Nat) : Int.fmod (a : Int) (k : Int) = ((a % k : Nat) : Int) := by rw [Int.fmod_eq_emod_of_nonneg _ (by omega)]; exact (Int.natCast_emod a k).symm
def amts : List Int := [1, 2, 3, 5, 0, -1, -2, 1]
theorem amts_le {j : Nat} {a : Int} (h : amts[j]? = some a) : -5 ≤ a ∧ a ≤ 5 := by
  have hm := List.mem_of_getElem? h
  simp only [amts, List.mem_cons, List.mem_nil_iff, or_false] at hm
  omega
theorem wd6_ok {k : Nat} {key : Str} (h : wd6[k]? = some key) : PyData.strOk key = true := by
  have hm := List.mem_of_getElem? h
  have : ∀ y ∈ wd6, PyData.strOk y = true := by decide +kernel
  exact this key hm
theorem bump_le {i : Nat} {cell : Nat → Nat → Int} {cs : Nat → Nat} {a : Int} (h : ∀ r c, -(5 * (i : Int)) ≤ cell r c ∧ cell r c ≤ 5 * (i : Int)) (ha : -5 ≤ a ∧ a ≤ 5) : ∀ r c, -(5 * ((i + 1 : Nat) : Int)) ≤ bump cell cs a r c ∧ bump cell cs a r c ≤ 5 * ((i + 1 : Nat) : Int) := fun r c => by
  have := h r c
  unfold bump
  split <;> (push_cast; omega)
/-- a turn is over: the state stands for some numbers of turn i -/
def TurnEnd (w : World) (g : Heap) (L : Addr) (Fx : List (Addr × Obj)) (x dx bl hf : Addr) (W D P i : Nat) (s : Shared) (f : Flow) (s' : Shared) : Prop :=
  f = .next ∧ ∃ (h' : Heap) (tk' : Nat) (m' : Str → Option Value) (news' : List (Addr × Obj)) (td cel nl vl : Addr) (ra : Nat → Addr) (cell : Nat → Nat → Int) (sums mark : Int) (b : List (Str × Int)),
    s' = { s with heap := h', toks := tk' } ∧ Fr g L h' m' ∧ News g L h' news' ∧ Mut w Fx news' L x dx bl td hf cel nl vl ra W D P cell cell sums mark b (b.map (·.1)) (b.map (·.2)) ∧ Loc m' x nl vl P sums mark ∧ Pl i P cell sums b
section
variable {w : World} {A : Around} {s : Shared} {E : Value → Shared → Prop}
theorem sub_tuple {value slice : Expr} {l : Addr} {vs : List Value} {k : Nat} {u : Tok} {v : Value} {Q : Value → Shared → Prop} (ht : IsTup s.heap l vs.toArray) (hhi : k < 64) (hx : vs[k]? = some v) (h : Q v s)
    (hs : subscripted slice false (.ref l) (.int (k : Int) u) = operate [.ref l, .int (k : Int) u] (getItem (.ref l) (.int (k : Int) u))) : wpAny (model PG w) A (subscriptTail value slice (.ref l) (.int (k : Int) u)) Q E s := by
  have hk : k < vs.length := (List.getElem?_eq_some_iff.mp hx).1
  have e2 : seqIndex? (k : Int) vs.length = some k := by
    unfold seqIndex?
    simp only [show ¬ (k : Int) < 0 by omega, if_false]
    rw [if_pos (by simp only [Bool.and_eq_true, decide_eq_true_eq]; omega), Int.toNat_natCast]
  exact item_tupleT ht (by omega) (by omega) e2 hx h hs
theorem amounts_at (B : Bs w s.heap) : ∃ vs, IsTup s.heap 331 vs.toArray ∧ IntsAre vs amts := by
  refine ⟨_, ⟨_, B.X 331 _ (by rfl), by rfl, _, by rfl⟩, ?_⟩
  exact .cons _ _ (.cons _ _ (.cons _ _ (.cons _ _ (.cons _ _ (.cons _ _ (.cons _ _ (.cons _ _ .nil)))))))
set_option maxHeartbeats 8000000 in
/-- the turn that adds -/
theorem law_adds {Q : Flow → Shared → Prop} {scope : Scope} (hsc : (fdAt w 343).map (·.scope) = some scope)
    {g : Heap} {L sl cl wl hf x dx bl td cel nl vl fa : Addr} {Fx news : List (Addr × Obj)} {svs : List Value} {ns : List Int} {W D P i pk : Nat} {cols : Nat → Nat → Nat} {ra : Nat → Addr} {cell : Nat → Nat → Int} {sums mark : Int} {b : List (Str × Int)} {m : Str → Option Value} {tp : Tok}
    (X : Fix w g L Fx sl cl wl hf x dx svs ns W D P cols) (Y : Mut w Fx news L x dx bl td hf cel nl vl ra W D P cell cell sums mark b (b.map (·.1)) (b.map (·.2))) (Z : Loc m x nl vl P sums mark) (R : Pl i P cell sums b) (hi : i < 20)
    (F : Fr g L s.heap m) (N : News g L s.heap news) (hpick : m (Str.ofString "pick") = some (.int (pk : Int) tp)) (hroom : A.depth < 500) (hhd : A.handled = none)
    (hE : PassesOwn (model PG w) A (envX (Str.ofString "law") scope L fa (.ref 342) (cellsFrom (L + 1) scope.names [])) E)
    (done : ∀ h' tk' m' news' cell' sums' mark' b', Fr g L h' m' → News g L h' news' → Mut w Fx news' L x dx bl td hf cel nl vl ra W D P cell' cell' sums' mark' b' (b'.map (·.1)) (b'.map (·.2)) → Loc m' x nl vl P sums' mark' → Pl (i + 1) P cell' sums' b' → Q .next { s with heap := h', toks := tk' }) :
    wpAny (model PG w) A (execs (addSts w) (envX (Str.ofString "law") scope L fa (.ref 342) (cellsFrom (L + 1) scope.names []))) Q E s := by
  have hsc0 := hsc
  have hsc' : some (⟨_, _, _, _, _⟩ : Scope) = some scope := hsc
  injection hsc' with hsc'
  subst hsc'
  obtain ⟨tms, hms⟩ := Z.ms
  refine wpAny_execs_cons ?_
  walk_at "goes"
  refine mod_int' (by decide) ?_
  rw [show Int.fmod (pk : Int) 6 = ((pk % 6 : Nat) : Int) from fmodN _ 6]
  obtain ⟨va, hat⟩ := Y.atC
  have hk6 : pk % 6 < 6 := Nat.mod_lt _ (by decide)
  generalize hk : pk % 6 = k at *
  refine sC F N hat (by rfl) ?_ (by rfl) (by rfl)
  intro h3 F3 N3 C3
  have Y3 := Y.atV X.xin C3
  replace C3 : ∃ t, LC (rel [L + 2] h3 news) (L + 2) (some (.int (k : Int) t)) := ⟨_, C3⟩
  obtain ⟨tk3, C3⟩ := C3
  generalize hn3 : rel [L + 2] h3 news = news3 at *
  refine cut_state (s := s) (h := h3) ?_
  intro tk3'
  walk_at "goes"
  refine t__law_amounts F3 X.B ?_ (by rfl) (by rfl)
  walk_at "goes"
  refine floordiv_int (by decide) ?_
  rw [show Int.fdiv (pk : Int) 6 = ((pk / 6 : Nat) : Int) from fdivN _ 6 (by decide)]
  walk_at "goes"
  refine mod_int' (by decide) ?_
  rw [show Int.fmod ((pk / 6 : Nat) : Int) 8 = ((pk / 6 % 8 : Nat) : Int) from fmodN _ 8]
  have hj8 : pk / 6 % 8 < 8 := Nat.mod_lt _ (by decide)
  generalize hj : pk / 6 % 8 = j at *
  obtain ⟨avs, hav, hai⟩ := amounts_at (s := { s with heap := h3 }) (X.B.keeps F3.keep)
  obtain ⟨amt, hamt⟩ : ∃ amt, amts[j]? = some amt := ⟨_, List.getElem?_eq_getElem (by show j < 8; exact hj8)⟩
  have hal := amts_le hamt
  obtain ⟨tam, hax⟩ := hai.get _ _ hamt
  refine sub_tuple hav (by omega) hax ?_ (by with_unfolding_all rfl)
  refine storeX_L F3 N3 ?_ (by rfl) (by rfl)
  intro h4 F4 N4
  refine cut_state (s := s) (h := h4) ?_
  intro tk4
  walk_at "goes"
  refine nC N4 (X.worC.sub fun o hm => Y3.fx _ hm) (by rfl) ?_ (by rfl) (by rfl) (by decide)
  walk_at "goes"
  refine nC N4 C3 (by rfl) ?_ (by rfl) (by rfl) (by decide)
  walk_at "goes"
  obtain ⟨wvs, hwl, hws⟩ := X.wlI
  obtain ⟨key, hkey⟩ : ∃ key, wd6[k]? = some key := ⟨_, List.getElem?_eq_getElem (by show k < 6; exact hk6)⟩
  obtain ⟨tkey, hkx⟩ := strs_get hws hkey
  refine sub_list ((hwl.sub fun o hm => Y3.fx _ hm).at N4) (by omega) (by omega) (by rw [Int.toNat_natCast]; exact hkx) ?_ (by with_unfolding_all rfl)
  refine storeX_L F4 N4 ?_ (by rfl) (by rfl)
  intro h5 F5 N5
  refine cut_state (s := s) (h := h5) ?_
  intro tk5
  refine wpAny_execs_cons ?_
  refine law_bump hsc0 (by rfl) X Y3 (by exact ⟨Z.mh, Z.mn, Z.mv, Z.mm, Z.ms, Z.mp⟩) C3 hk6 F5 N5 (by rfl) (by rfl) hroom hhd hE ?_
  intro h6 tk6 m6 news6 F6 N6 Y6 C6 Z6 hw6 ha6
  refine cut_state (s := s) (h := h6) ?_
  intro tk6'
  walk_at "go"
  refine wpAny_Assign_Name ?_ (by with_unfolding_all rfl)
  refine law_told hsc0 (by rfl) X Y6 C6 hk6 F6 N6 hhd ?_
  intro h7 tk7 t7 F7 N7
  refine storeX_L F7 N7 ?_ (by rfl) (by rfl)
  intro h8 F8 N8
  refine cut_state (s := s) (h := h8) ?_
  intro tk8
  walk_at "go"
  refine wpAny_AugAssign_Name ?_
  obtain ⟨tms6, hms6⟩ := Z6.ms
  refine wpAny_loadName_local (by rfl) (by rfl) F8.ns (show _ = some (.int sums tms6) from hms6) ?_
  walk_at "goes"
  refine storeX_L F8 N8 ?_ (by rfl) (by rfl)
  intro h9 F9 N9
  refine cut_state (s := s) (h := h9) ?_
  intro tk9
  refine wpAny_execs_cons ?_
  have hcb := R.hc
  have hsb := R.hs
  refine law_add (amt := amt) (key := key) (tw := tkey) (ta := tam) (cell := cell) (ea := sums) (sums := sums + amt) (mk := mark) hsc0 (by rfl) X Y6 (by exact ⟨Z6.mh, Z6.mn, Z6.mv, Z6.mm, ⟨_, by rfl⟩, Z6.mp⟩) hk6 hkey R.hb (fun r hr => by have := hcb r (cols k r); omega) (by omega) F9 N9 hw6 ha6 (by rfl) hroom hhd ?_
  intro h10 tk10 news10 F10 N10 Y10
  refine cut_state (s := s) (h := h10) ?_
  intro tk10'
  refine wpAny_execs_cons ?_
  refine law_book (tw := tkey) (sums := sums + amt) (mk := mark) (key := key) (v := lmin (picks D (bump cell (cols k) amt) (cols k))) hsc0 (by rfl) X Y10 (by exact ⟨Z6.mh, Z6.mn, Z6.mv, Z6.mm, ⟨_, by rfl⟩, Z6.mp⟩) R.hb R.hn F10 N10 hw6 (by rfl) hhd ?_
  intro h11 tk11 m11 news11 F11 N11 Y11 Z11
  walk_at "goes"
  have hP := X.hP
  have hbk := bookStep_keys (mk := mark) (v := lmin (picks D (bump cell (cols k) amt) (cols k))) (k := key) R.hn R.hb (by omega)
  refine done h11 _ m11 news11 _ _ _ _ F11 N11 Y11 Z11 ⟨hbk.2, hbk.1, fun y hy => ?_, bump_le hcb hal, by push_cast; omega⟩
  rcases bookStep_mem y hy with h | h
  · exact R.ho y h
  · rw [h]; exact wd6_ok hkey
end
end

-- M10
section
section
variable {w : World} {A : Around} {s : Shared} {E : Value → Shared → Prop}
theorem LL.of_lst {news : List (Addr × Obj)} {a : Addr} {vs : List Value} (h : (a, LCg.lst vs) ∈ news) : LL news a vs := ⟨_, h⟩
set_option maxHeartbeats 8000000 in
/-- the turn that clears -/
theorem law_clears {Q : Flow → Shared → Prop} {scope : Scope} (hsc : (fdAt w 343).map (·.scope) = some scope)
    {g : Heap} {L sl cl wl hf x dx bl td cel nl vl fa : Addr} {Fx news : List (Addr × Obj)} {svs : List Value} {ns : List Int} {W D P i : Nat} {cols : Nat → Nat → Nat} {ra : Nat → Addr} {cell : Nat → Nat → Int} {sums mark : Int} {b : List (Str × Int)} {m : Str → Option Value}
    (X : Fix w g L Fx sl cl wl hf x dx svs ns W D P cols) (Y : Mut w Fx news L x dx bl td hf cel nl vl ra W D P cell cell sums mark b (b.map (·.1)) (b.map (·.2))) (Z : Loc m x nl vl P sums mark)
    (F : Fr g L s.heap m) (N : News g L s.heap news) (hroom : A.depth < 500) (hhd : A.handled = none)
    (done : ∀ h' tk' m' news' td' cel' nl' vl' ra', Fr g L h' m' → News g L h' news' → Mut w Fx news' L x dx bl td' hf cel' nl' vl' ra' W D P (fun _ _ => 0) (fun _ _ => 0) 0 0 [] [] [] → Loc m' x nl' vl' P 0 0 → Q .next { s with heap := h', toks := tk' }) :
    wpAny (model PG w) A (execs (clearSts w) (envX (Str.ofString "law") scope L fa (.ref 342) (cellsFrom (L + 1) scope.names []))) Q E s := by
  have hsc0 := hsc
  have hsc' : some (⟨_, _, _, _, _⟩ : Scope) = some scope := hsc
  injection hsc' with hsc'
  subst hsc'
  have hmh := Z.mh
  have hD3 := X.hD
  have hW4 := X.hW
  have n := nes_of Y.nd
  have hxm := Y.fa _ X.xin
  have hxd : x ≠ dx := fun q => hxm (by rw [q]; exact Mut.mem9 D ra (by simp))
  have hxb : x ≠ bl := fun q => hxm (by show x ∈ _; rw [q]; exact Mut.mem9 D ra (by simp))
  have hxt : x ≠ td := fun q => hxm (by show x ∈ _; rw [q]; exact Mut.mem9 D ra (by simp))
  obtain ⟨od1, ob1, ot1, k1, k2, k3, k4, k5⟩ := id Y.sk
  have Ap : Apart g x dx bl td := ⟨(N _ k2).2.2, (N _ k3).2.2, (N _ k4).2.2, n.dx_bl, n.dx_td, n.bl_td, hxd, hxb, hxt, Y.lo⟩
  have S := Y.sk.at N
  obtain ⟨r0, _, _, _, _, _, _, _, _, Yh⟩ := id S
  refine wpAny_execs_cons ?_
  refine wpAny_Expr_any ?_ (by with_unfolding_all rfl) (by with_unfolding_all rfl)
  walk_at "goes"
  refine m_clear (X.B.keeps F.keep) Yh.hI ?_
  refine callWith_F0 (fnAt_K (X.B.keeps F.keep) (by kernel_rfl)) ?_
  refine hh_clear X.B F.keep Ap S (by omega) (by omega) (by show A.depth < 650; omega) hhd ?_
  intro h1 tk1 td' K1 htd' lo' S1
  -- the ledger after the clear
  have S1p : ∃ o1 o2 o3, h1.get? dx = some o1 ∧ h1.get? bl = some o2 ∧ h1.get? td' = some o3 := by
    obtain ⟨r, bys, kvs, tW, tD, tE, tS, tN, tM, Y1⟩ := S1
    obtain ⟨o1, o2, o3, q1, q2, q3, _⟩ := Y1.parts
    exact ⟨o1, o2, o3, q1, q2, q3⟩
  obtain ⟨o1, o2, o3, q1, q2, q3⟩ := S1p
  have N1 := rel_news N K1 (fun a ha => by
    simp only [List.mem_cons, List.mem_nil_iff, or_false] at ha
    rcases ha with rfl | rfl
    · exact ⟨_, q1⟩
    · exact ⟨_, q2⟩)
  have F1 := fr_rel F N K1 (fun a ha => by
    simp only [List.mem_cons, List.mem_nil_iff, or_false] at ha
    rcases ha with rfl | rfl
    · exact ⟨_, k2⟩
    · exact ⟨_, k3⟩)
  have gno : ∀ a, s.heap.get? a = none → a ≠ L ∧ g.get? a = none := fun a na => by
    refine ⟨fun q => ?_, none_of_up' F.keep na⟩
    obtain ⟨oL, _, _, e, _⟩ := F.ns
    rw [q, e] at na; cases na
  have N1' : News g L h1 ((td', o3) :: rel [dx, bl] h1 news) := fun p hp => by
    rcases List.mem_cons.mp hp with rfl | hp
    · exact ⟨q3, gno _ htd'⟩
    · exact N1 p hp
  -- what is not touched stays
  have keep1 : ∀ {a : Addr} {o : Obj}, (a, o) ∈ news → a ≠ dx → a ≠ bl → (a, o) ∈ (td', o3) :: rel [dx, bl] h1 news := fun hm n1 n2 => .tail _ (rel_keep hm (by simp [n1, n2]))
  have fx1 : ∀ p ∈ Fx, p ∈ (td', o3) :: rel [dx, bl] h1 news := fun p hp => .tail _ (rel_keep (Y.fx p hp) (by
    simp only [List.mem_cons, List.mem_nil_iff, or_false, not_or]
    exact ⟨fun q => Y.fa p hp (by rw [q]; exact Mut.mem9 D ra (by simp)), fun q => Y.fa p hp (by rw [q]; exact Mut.mem9 D ra (by simp))⟩))
  have SK1 : SK w ((td', o3) :: rel [dx, bl] h1 news) x dx bl td' hf W D P (fun _ _ => 0) 0 [] 0 := SK.of S1 N1' (fx1 _ X.xin) ⟨_, .tail _ (rel_at k2 (.head _) q1)⟩ ⟨_, .tail _ (rel_at k3 (.tail _ (.head _)) q2)⟩ ⟨_, .head _⟩
  obtain ⟨va, oa, hma, hda⟩ := Y.atC
  obtain ⟨vb, ob, hmb, hdb⟩ := Y.booC
  obtain ⟨oc, hmc, hdc⟩ := Y.celC
  have a1 := keep1 hma n.at_dx n.at_bl
  have b1 := keep1 hmb n.bo_dx n.bo_bl
  have c1 := keep1 hmc n.ce_dx n.ce_bl
  have ex : ∀ {a : Addr} {o : Obj}, (a, o) ∈ news → td' ≠ a := fun hm => ne_none (N _ hm).1 htd'
  have nta := ex hma
  have ntb := ex hmb
  have ntc := ex hmc
  have ntdx := ex k2
  have ntbl := ex k3
  have ntfx : ∀ p ∈ Fx, td' ≠ p.1 := fun p hp => ex (Y.fx p hp)
  generalize hq1 : (td', o3) :: rel [dx, bl] h1 news = news1 at *
  refine cut_state (s := s) (h := h1) ?_
  intro tk1'
  obtain ⟨tD, hdep⟩ := X.depC
  obtain ⟨tW, hwid⟩ := X.widC
  refine wpAny_execs_cons ?_
  refine law_cells hsc0 (.inr rfl) X.B F1 N1' (hdep.sub fun o hm => fx1 _ hm) (hwid.sub fun o hm => fx1 _ hm) ⟨oc, c1, hdc⟩ (by omega) (by omega) hhd ?_
  intro h2 tk2 cel' ra' robj F2 N2 C2 r2 r3 r5 r6
  have e1 : ∀ {a : Addr} {o : Obj}, (a, o) ∈ news1 → h1.get? a = some o := fun hm => (N1' _ hm).1
  have td1 : (td', o3) ∈ news1 := by rw [← hq1]; exact .head _
  have dx1 : ∃ o, (dx, o) ∈ news1 := ⟨o1, by rw [← hq1]; exact .tail _ (rel_at k2 (.head _) q1)⟩
  have bl1 : ∃ o, (bl, o) ∈ news1 := ⟨o2, by rw [← hq1]; exact .tail _ (rel_at k3 (.tail _ (.head _)) q2)⟩
  obtain ⟨odx, dx1⟩ := dx1
  obtain ⟨obl, bl1⟩ := bl1
  have cne : ∀ {a : Addr} {o : Obj}, (a, o) ∈ news1 → cel' ≠ a := fun hm => ne_none (e1 hm) r5
  have rne : ∀ r < D, ∀ {a : Addr} {o : Obj}, (a, o) ∈ news1 → ra' r ≠ a := fun r hr _ _ hm => ne_none (e1 hm) (r6 r hr).1
  have keep2 : ∀ {a : Addr} {o : Obj}, (a, o) ∈ news1 → a ≠ L + 3 → (a, o) ∈ (cel', LCg.lst ((List.range D).map fun r => Value.ref (ra' r))) :: (robj ++ rel [L + 3] h2 news1) := fun hm n1 => .tail _ (List.mem_append_right _ (rel_keep hm (by simpa using n1)))
  have fxce : ∀ p ∈ Fx, p.1 ≠ L + 3 := fun p hp q => Y.fa p hp (by rw [q]; exact Mut.mem9 D ra (by simp))
  have fx2 : ∀ p ∈ Fx, p ∈ (cel', LCg.lst ((List.range D).map fun r => Value.ref (ra' r))) :: (robj ++ rel [L + 3] h2 news1) := fun p hp => keep2 (fx1 p hp) (fxce p hp)
  have SK2 : SK w ((cel', LCg.lst ((List.range D).map fun r => Value.ref (ra' r))) :: (robj ++ rel [L + 3] h2 news1)) x dx bl td' hf W D P (fun _ _ => 0) 0 [] 0 := SK1.sub fun a ha o hm => keep2 hm (by
    simp only [List.mem_cons, List.mem_nil_iff, or_false] at ha
    rcases ha with rfl | rfl | rfl | rfl
    · exact fxce _ X.xin
    · exact n.ce_dx.symm
    · exact n.ce_bl.symm
    · exact ntc)
  have a2 := keep2 a1 n.at_ce
  have b2 := keep2 b1 n.ce_bo.symm
  obtain ⟨oc2, c2, hdc2⟩ := C2
  have c2' : (L + 3, oc2) ∈ (cel', LCg.lst ((List.range D).map fun r => Value.ref (ra' r))) :: (robj ++ rel [L + 3] h2 news1) := .tail _ (List.mem_append_right _ c2)
  have td2 := keep2 td1 ntc
  have dx2 := keep2 dx1 n.ce_dx.symm
  have bl2 := keep2 bl1 n.ce_bl.symm
  have ce2 : (cel', LCg.lst ((List.range D).map fun r => Value.ref (ra' r))) ∈ (cel', LCg.lst ((List.range D).map fun r => Value.ref (ra' r))) :: (robj ++ rel [L + 3] h2 news1) := .head _
  have rr2 : ∀ r < D, ∃ zs, (ra' r, LCg.lst zs) ∈ (cel', LCg.lst ((List.range D).map fun r => Value.ref (ra' r))) :: (robj ++ rel [L + 3] h2 news1) ∧ IntsAre zs ((List.range W).map fun _ => 0) := fun r hr => by
    obtain ⟨zs, hz, hz2⟩ := r2 r hr
    exact ⟨zs, .tail _ (List.mem_append_left _ hz), hz2⟩
  generalize hq2 : (cel', LCg.lst ((List.range D).map fun r => Value.ref (ra' r))) :: (robj ++ rel [L + 3] h2 news1) = news2 at *
  refine cut_state (s := s) (h := h2) ?_
  intro tk2'
  refine wpAny_execs_cons ?_
  refine law_reset hsc0 (.inr rfl) F2 N2 hhd ?_
  intro h3 tk3 nl' vl' t1 t2 F3 N3 hnl hvl hnv
  have hnl : h2.get? nl' = none := hnl
  have hvl : h2.get? vl' = none := hvl
  walk_at "goes"
  have e2 : ∀ {a : Addr} {o : Obj}, (a, o) ∈ news2 → nl' ≠ a ∧ vl' ≠ a := fun hm => ⟨ne_none (N2 _ hm).1 hnl, ne_none (N2 _ hm).1 hvl⟩
  have up3 : ∀ {a : Addr} {o : Obj}, (a, o) ∈ news2 → (a, o) ∈ (vl', LCg.lst []) :: (nl', LCg.lst []) :: news2 := fun hm => .tail _ (.tail _ hm)
  have nes : Nes L dx bl td' cel' nl' vl' ra' D :=
    { at_ce := n.at_ce, at_bo := n.at_bo, at_dx := n.at_dx, at_bl := n.at_bl, at_td := Ne.symm nta, at_cel := Ne.symm (cne a1), at_nl := Ne.symm (e2 a2).1, at_vl := Ne.symm (e2 a2).2,
      ce_bo := n.ce_bo, ce_dx := n.ce_dx, ce_bl := n.ce_bl, ce_td := Ne.symm ntc, ce_cel := Ne.symm (cne c1), ce_nl := Ne.symm (e2 c2').1, ce_vl := Ne.symm (e2 c2').2,
      bo_dx := n.bo_dx, bo_bl := n.bo_bl, bo_td := Ne.symm ntb, bo_cel := Ne.symm (cne b1), bo_nl := Ne.symm (e2 b2).1, bo_vl := Ne.symm (e2 b2).2,
      dx_bl := n.dx_bl, dx_td := Ne.symm ntdx, dx_cel := Ne.symm (cne dx1), dx_nl := Ne.symm (e2 dx2).1, dx_vl := Ne.symm (e2 dx2).2,
      bl_td := Ne.symm ntbl, bl_cel := Ne.symm (cne bl1), bl_nl := Ne.symm (e2 bl2).1, bl_vl := Ne.symm (e2 bl2).2,
      td_cel := Ne.symm (cne td1), td_nl := Ne.symm (e2 td2).1, td_vl := Ne.symm (e2 td2).2,
      cel_nl := Ne.symm (e2 ce2).1, cel_vl := Ne.symm (e2 ce2).2, nl_vl := hnv,
      at_r := fun r hr => Ne.symm (rne r hr a1), ce_r := fun r hr => Ne.symm (rne r hr c1), bo_r := fun r hr => Ne.symm (rne r hr b1), dx_r := fun r hr => Ne.symm (rne r hr dx1), bl_r := fun r hr => Ne.symm (rne r hr bl1), td_r := fun r hr => Ne.symm (rne r hr td1),
      cel_r := fun r hr => Ne.symm (r6 r hr).2, nl_r := fun r hr => by obtain ⟨zs, hz, _⟩ := rr2 r hr; exact (e2 hz).1, vl_r := fun r hr => by obtain ⟨zs, hz, _⟩ := rr2 r hr; exact (e2 hz).2, r_r := r3 }
  refine done h3 _ _ _ td' cel' nl' vl' ra' F3 N3 ⟨⟨va, oa, up3 a2, hda⟩, ⟨oc2, up3 c2', hdc2⟩, ⟨vb, ob, up3 b2, hdb⟩, LL.of_lst (up3 ce2), fun r hr => ?_, ⟨[], LL.of_lst (.tail _ (.head _)), .nil⟩, ⟨[], LL.of_lst (.head _), .nil⟩, SK2.sub fun a _ o hm => up3 hm, lo', nd_of nes, fun p hp => up3 (fx2 p hp), fun p hp q => ?_⟩ ⟨Z.mh, by rfl, by rfl, ⟨_, by rfl⟩, ⟨_, by rfl⟩, Z.mp⟩
  · obtain ⟨zs, hz, hz2⟩ := rr2 r hr
    exact ⟨zs, LL.of_lst (up3 hz), hz2⟩
  · rcases List.mem_append.mp q with q | q
    · simp only [List.mem_cons, List.mem_nil_iff, or_false] at q
      have old : ∀ c, c ∈ [L + 2, L + 3, L + 4, dx, bl, td, cel, nl, vl] → p.1 = c → False := fun c hc e => Y.fa p hp (by rw [e]; exact Mut.mem9 D ra hc)
      rcases q with q | q | q | q | q | q | q | q | q
      · exact old _ (by simp) q
      · exact old _ (by simp) q
      · exact old _ (by simp) q
      · exact old _ (by simp) q
      · exact old _ (by simp) q
      · exact ntfx p hp q.symm
      · exact cne (fx1 p hp) q.symm
      · exact (e2 (fx2 p hp)).1 q.symm
      · exact (e2 (fx2 p hp)).2 q.symm
    · obtain ⟨r, hr, e⟩ := List.mem_map.mp q
      exact rne r (List.mem_range.mp hr) (fx1 p hp) e
end
end

-- M11
section
section
variable {w : World} {A : Around} {s : Shared} {E : Value → Shared → Prop}
set_option maxHeartbeats 8000000 in
theorem law_turn {scope : Scope} {tg it : Expr} {body : List Stmt} {pos : Pos} (hsc : (fdAt w 343).map (·.scope) = some scope) (hst : (lawSts w)[10]? = some (.For tg it body [] pos))
    {g : Heap} {L sl cl wl hf x dx bl td cel nl vl fa : Addr} {Fx news : List (Addr × Obj)} {svs : List Value} {ns : List Int} {W D P i : Nat} {cols : Nat → Nat → Nat} {ra : Nat → Addr} {cell : Nat → Nat → Int} {sums mark : Int} {b : List (Str × Int)} {m : Str → Option Value} {ti : Tok}
    (X : Fix w g L Fx sl cl wl hf x dx svs ns W D P cols) (Y : Mut w Fx news L x dx bl td hf cel nl vl ra W D P cell cell sums mark b (b.map (·.1)) (b.map (·.2))) (Z : Loc m x nl vl P sums mark) (R : Pl i P cell sums b) (hi : i < 20)
    (F : Fr g L s.heap m) (N : News g L s.heap news) (hstep : m (Str.ofString "step") = some (.int (i : Int) ti)) (hroom : A.depth < 500) (hhd : A.handled = none) (hun : A.units + 64 < cLine) :
    wpAny (model PG w) A (execs body (envX (Str.ofString "law") scope L fa (.ref 342) (cellsFrom (L + 1) scope.names []))) (TurnEnd w g L Fx x dx bl hf W D P (i + 1) s) (fun _ _ => False) s := by
  have hsc0 := hsc
  have hsc' : some (⟨_, _, _, _, _⟩ : Scope) = some scope := hsc
  injection hsc' with hsc'
  subst hsc'
  have hst' : some (Stmt.For _ _ (_ :: _) _ _) = some (.For tg it body [] pos) := hst
  injection hst' with hst'
  injection hst' with _ _ e3 _ _
  subst e3
  walk_at "goes"
  refine t__law_number F X.B ?_ (by rfl) (by rfl)
  refine callWith_F (fnAt_K (X.B.keeps F.keep) (by kernel_rfl)) ?_ (by with_unfolding_all rfl) (by with_unfolding_all rfl)
  walk_at "goes"
  refine nC N (X.scr.sub fun o hm => Y.fx _ hm) (by rfl) ?_ (by rfl) (by rfl) (by decide)
  walk_at "goes"
  refine ⟨fnAt_K (X.B.keeps F.keep) (by kernel_rfl), ?_⟩
  rw [show (19 : Int) + (i : Int) = ((19 + i : Nat) : Int) by push_cast; rfl]
  refine number_spec (X.B.keeps F.keep) (isList_keeps X.slI F.keep) X.si X.sn (by omega) (by show A.depth < 850; omega) ?_
  intro h1 tk1 t1 K1
  have F1 := F.keeps K1.all
  have N1 := N.grown K1.all
  refine storeX_L F1 N1 ?_ (by rfl) (by rfl)
  intro h2 F2 N2
  generalize hpk : numAt ns (19 + i) = pk at *
  refine cut_state (s := s) (h := h2) ?_
  intro tk2
  walk_at "goes"
  refine floordiv_int (by decide) ?_
  rw [show Int.fdiv (pk : Int) 48 = ((pk / 48 : Nat) : Int) from fdivN _ 48 (by decide)]
  walk_at "goes"
  refine mod_int' (by decide) ?_
  rw [show Int.fmod ((pk / 48 : Nat) : Int) 12 = ((pk / 48 % 12 : Nat) : Int) from fmodN _ 12]
  walk_at "goes"
  refine eq_int ?_
  by_cases hcl : pk / 48 % 12 = 11
  · rw [show ((((pk / 48 % 12 : Nat) : Int) == (11 : Int)) = true) by rw [hcl]; rfl]
    refine wpAny_truthy_bool ?_
    refine iteTb ?_
    refine cut_state (s := s) (h := h2) ?_
    intro tk3
    refine law_clears (i := 0) hsc0 X Y (by exact ⟨Z.mh, Z.mn, Z.mv, Z.mm, Z.ms, Z.mp⟩) F2 N2 hroom hhd ?_
    intro h3 tk3 m3 news3 td3 cel3 nl3 vl3 ra3 F3 N3 Y3 Z3
    refine law_check hsc0 (by rfl) (by rfl) X Y3 Z3 (Nat.zero_le _) (by simp) (by simp) F3 N3 hroom hhd hun ?_
    intro h4 tk4 news4 F4 N4 Y4
    exact ⟨rfl, h4, _, m3, news4, td3, cel3, nl3, vl3, ra3, _, _, _, _, rfl, F4, N4, Y4, Z3, ⟨Nat.zero_le _, by simp, by simp, fun _ _ => by push_cast; omega, by push_cast; omega⟩⟩
  · rw [show ((((pk / 48 % 12 : Nat) : Int) == (11 : Int)) = false) by rw [beq_eq_false_iff_ne]; omega]
    refine wpAny_truthy_bool ?_
    refine iteFb ?_
    refine cut_state (s := s) (h := h2) ?_
    intro tk3
    refine law_adds hsc0 (tp := t1) (pk := pk) X Y (by exact ⟨Z.mh, Z.mn, Z.mv, Z.mm, Z.ms, Z.mp⟩) R hi F2 N2 (by rfl) hroom hhd .never ?_
    intro h3 tk3 m3 news3 cell3 sums3 mark3 b3 F3 N3 Y3 Z3 R3
    refine law_check hsc0 (by rfl) (by rfl) X Y3 Z3 R3.hb R3.hn R3.ho F3 N3 hroom hhd hun ?_
    intro h4 tk4 news4 F4 N4 Y4
    exact ⟨rfl, h4, _, m3, news4, td, cel, nl, vl, ra, _, _, _, _, rfl, F4, N4, Y4, Z3, R3⟩
end
end

-- M12
section
section
variable {w : World} {A : Around} {s : Shared} {E : Value → Shared → Prop} {g : Heap} {L sl cl wl hf x dx bl : Addr} {Fx : List (Addr × Obj)} {svs : List Value} {ns : List Int} {W D P : Nat} {cols : Nat → Nat → Nat}
theorem Fix.cons (X : Fix w g L Fx sl cl wl hf x dx svs ns W D P cols) (q : Addr × Obj) : Fix w g L (q :: Fx) sl cl wl hf x dx svs ns W D P cols := by
  have k : ∀ {a : Addr} (o : Obj), (a, o) ∈ Fx → (a, o) ∈ q :: Fx := fun o h => .tail _ h
  obtain ⟨tD, hd⟩ := X.depC
  obtain ⟨tW, hw⟩ := X.widC
  obtain ⟨wvs, h1, h2⟩ := X.wlI
  obtain ⟨cvs, h3, h4⟩ := X.clI
  exact ⟨X.B, X.scr.sub k, X.colC.sub k, ⟨tD, hd.sub k⟩, ⟨tW, hw.sub k⟩, X.worC.sub k, X.slI, X.si, X.sn, ⟨wvs, h1.sub k, h2⟩, ⟨cvs, h3.sub k, fun i hi => by obtain ⟨lk, lvs, a, b, c⟩ := h4 i hi; exact ⟨lk, lvs, a, b.sub k, c⟩⟩, X.cw, X.hW, X.hD, X.hP, .tail _ X.xin,
    fun i hi key hk => by obtain ⟨H, a, b⟩ := X.hs i hi key hk; exact ⟨H, fun c o e => (a c o e).imp id fun z => .tail _ z, b⟩⟩
theorem Mut.key {news : List (Addr × Obj)} {td cel nl vl : Addr} {ra : Nat → Addr} {cell cs : Nat → Nat → Int} {ea mk : Int} {b : List (Str × Int)} {nms : List Str} {vls : List Int} (Y : Mut w Fx news L x dx bl td hf cel nl vl ra W D P cell cs ea mk b nms vls) :
    ∀ a ∈ mutA L dx bl td cel nl vl D ra, ∃ o, (a, o) ∈ news := by
  intro a ha
  obtain ⟨od1, ob, ot, h1, h2, h3, h4, h5⟩ := Y.sk
  rcases List.mem_append.mp ha with ha | ha
  · simp only [List.mem_cons, List.mem_nil_iff, or_false] at ha
    rcases ha with rfl | rfl | rfl | rfl | rfl | rfl | rfl | rfl | rfl
    · exact Y.atC.choose_spec.key
    · exact Y.celC.key
    · exact Y.booC.choose_spec.key
    · exact ⟨_, h2⟩
    · exact ⟨_, h3⟩
    · exact ⟨_, h4⟩
    · exact Y.celL.key
    · exact Y.nam.choose_spec.1.key
    · exact Y.val.choose_spec.1.key
  · obtain ⟨r, hr, rfl⟩ := List.mem_map.mp ha
    obtain ⟨vs, q, _⟩ := Y.row r (List.mem_range.mp hr)
    exact q.key
/-- a further object joins those that never change -/
theorem Mut.cons {news : List (Addr × Obj)} {td cel nl vl : Addr} {ra : Nat → Addr} {cell cs : Nat → Nat → Int} {ea mk : Int} {b : List (Str × Int)} {nms : List Str} {vls : List Int} {I : Addr} {oI : Obj} (Y : Mut w Fx news L x dx bl td hf cel nl vl ra W D P cell cs ea mk b nms vls) (hx : (x, instObj 321 dx) ∈ Fx) (hne : ∀ p ∈ news, p.1 ≠ I) :
    Mut w ((I, oI) :: Fx) ((I, oI) :: news) L x dx bl td hf cel nl vl ra W D P cell cs ea mk b nms vls := by
  have Y2 := Y.sub (news' := (I, oI) :: news) hx (fun a _ o hm => .tail _ hm) (fun p hp => .tail _ (Y.fx p hp))
  refine ⟨Y2.atC, Y2.celC, Y2.booC, Y2.celL, Y2.row, Y2.nam, Y2.val, Y2.sk, Y2.lo, Y2.nd, fun p hp => ?_, fun p hp => ?_⟩
  · rcases List.mem_cons.mp hp with rfl | hp
    · exact .head _
    · exact .tail _ (Y.fx p hp)
  · rcases List.mem_cons.mp hp with rfl | hp
    · intro q
      obtain ⟨o, hm⟩ := Y.key _ q
      exact hne _ hm rfl
    · exact Y.fa p hp
/-- it leaves them again -/
theorem Mut.uncons {news : List (Addr × Obj)} {td cel nl vl : Addr} {ra : Nat → Addr} {cell cs : Nat → Nat → Int} {ea mk : Int} {b : List (Str × Int)} {nms : List Str} {vls : List Int} {I : Addr} {oI : Obj} (Y : Mut w ((I, oI) :: Fx) news L x dx bl td hf cel nl vl ra W D P cell cs ea mk b nms vls) (hx : (x, instObj 321 dx) ∈ Fx) (hI : ∀ p ∈ Fx, p.1 ≠ I) :
    Mut w Fx (news.filter fun p => decide (p.1 ≠ I)) L x dx bl td hf cel nl vl ra W D P cell cs ea mk b nms vls := by
  have Y1 : Mut w Fx news L x dx bl td hf cel nl vl ra W D P cell cs ea mk b nms vls := ⟨Y.atC, Y.celC, Y.booC, Y.celL, Y.row, Y.nam, Y.val, Y.sk, Y.lo, Y.nd, fun p hp => Y.fx p (.tail _ hp), fun p hp => Y.fa p (.tail _ hp)⟩
  exact Y1.sub hx (fun a ha o hm => List.mem_filter.mpr ⟨hm, by simp only [ne_eq, decide_eq_true_eq]; intro q; exact Y.fa (I, oI) (.head _) (by show I ∈ _; rw [← q]; exact ha)⟩) fun p hp => List.mem_filter.mpr ⟨Y1.fx p hp, by simpa using hI p hp⟩
set_option maxHeartbeats 8000000 in
/-- the twenty turns -/
theorem law_loop {Q : Flow → Shared → Prop} {scope : Scope} {st : Stmt} (hsc : (fdAt w 343).map (·.scope) = some scope) (hst : (lawSts w)[10]? = some st)
    {td cel nl vl fa : Addr} {news : List (Addr × Obj)} {ra : Nat → Addr} {m : Str → Option Value}
    (X : Fix w g L Fx sl cl wl hf x dx svs ns W D P cols) (Y : Mut w Fx news L x dx bl td hf cel nl vl ra W D P (fun _ _ => 0) (fun _ _ => 0) 0 0 [] [] []) (Z : Loc m x nl vl P 0 0)
    (F : Fr g L s.heap m) (N : News g L s.heap news) (hroom : A.depth < 500) (hhd : A.handled = none) (hun : A.units + 64 < cLine)
    (hE : PassesOwn (model PG w) A (envX (Str.ofString "law") scope L fa (.ref 342) (cellsFrom (L + 1) scope.names [])) E)
    (done : ∀ h' tk' m' news' td cel nl vl ra cell sums mark b, Fr g L h' m' → News g L h' news' → Mut w Fx news' L x dx bl td hf cel nl vl ra W D P cell cell sums mark b (b.map (·.1)) (b.map (·.2)) → Loc m' x nl vl P sums mark → Q .next { s with heap := h', toks := tk' }) :
    wpAny (model PG w) A (exec st (envX (Str.ofString "law") scope L fa (.ref 342) (cellsFrom (L + 1) scope.names []))) Q E s := by
  have hsc0 := hsc
  have hst0 := hst
  have hsc' : some (⟨_, _, _, _, _⟩ : Scope) = some scope := hsc
  injection hsc' with hsc'
  subst hsc'
  have hst' : some (Stmt.For _ _ (_ :: _) _ _) = some st := hst
  injection hst' with e1
  subst e1
  refine For_turns F ?_ (by intro _; with_unfolding_all rfl) hE
  walk_at "goes"
  refine b_range F X.B ?_ (by rfl) (by rfl)
  walk_at "goes"
  refine for_rng (n := 20) hhd (by omega) F N (by rfl) (by rfl)
    (fun i m₁ news₁ => ∃ td cel nl vl ra cell sums mark b, Mut w Fx news₁ L x dx bl td hf cel nl vl ra W D P cell cell sums mark b (b.map (·.1)) (b.map (·.2)) ∧ Loc m₁ x nl vl P sums mark ∧ Pl i P cell sums b) ?_ ?_ ?_
  · exact ⟨td, cel, nl, vl, ra, _, 0, 0, [], Y, Z, ⟨Nat.zero_le _, by simp, by simp, fun _ _ => by omega, by omega⟩⟩
  · rintro i ti m₁ news₁ h1 tk1 I oI hi ⟨td, cel, nl, vl, ra, cell, sums, mark, b, Y1, Z1, R1⟩ hne gI F1 N1
    have hIf : ∀ p ∈ Fx, p.1 ≠ I := fun p hp => hne p (Y1.fx p hp)
    refine wpAny_mono (law_turn hsc0 hst0 (X.cons (I, oI)) (Y1.cons X.xin hne) (by exact ⟨Z1.mh, Z1.mn, Z1.mv, Z1.mm, Z1.ms, Z1.mp⟩) R1 hi F1 N1 (by rfl) hroom hhd hun) (fun f s' hf => ?_) fun _ _ q => q.elim
    obtain ⟨rfl, h2, tk2, m2, news2, td2, cel2, nl2, vl2, ra2, cell2, sums2, mark2, b2, rfl, F2, N2, Y2, Z2, R2⟩ := hf
    refine endO_next rfl F2 (news' := news2.filter fun p => decide (p.1 ≠ I)) (fun p hp => ?_) (fun p hp => by simpa using (List.mem_filter.mp hp).2) ⟨td2, cel2, nl2, vl2, ra2, cell2, sums2, mark2, b2, Y2.uncons X.xin hIf, Z2, R2⟩
    rcases List.mem_append.mp hp with q | q
    · rw [List.mem_singleton.mp q]; exact N2 _ (Y2.fx _ (.head _))
    · exact N2 _ (List.mem_filter.mp q).1
  · rintro h1 tk1 m₁ news₁ F1 N1 ⟨td, cel, nl, vl, ra, cell, sums, mark, b, Y1, Z1, R1⟩
    exact done h1 tk1 m₁ news₁ td cel nl vl ra cell sums mark b F1 N1 Y1 Z1
end
end

-- M13
section
noncomputable def lastSts (w : World) : List Stmt := match (lawSts w)[11]? with | some (Stmt.For _ _ b _ _) => b | _ => []
noncomputable def lastMin (w : World) : Option Expr := match (lastSts w)[0]? with | some (Stmt.If (Expr.Compare _ _ (e :: _) _) _ _ _) => some e | _ => none
section
variable {w : World} {A : Around} {E : Value → Shared → Prop} {s : Shared} {cn : Str} {sc : Scope} {L fa : Addr} {ccd : Value} {cl : List (Str × Addr)} {g : Heap} {body : List Stmt} {Q : Flow → Shared → Prop}
/-- for over range(n), where the target is a cell variable -/
theorem for_rngC {n : Nat} {t : Tok} {x : Str} {c : Addr} {px : Pos} {m : Str → Option Value} {news : List (Addr × Obj)} (hh : A.handled = none) (hn : n ≤ 64)
    (F : Fr g L s.heap m) (N : News g L s.heap news) (hx : (envX cn sc L fa ccd cl).kindOf x = some .cell) (hk : sc.kind = .function) (hc : cl.lookup x = some c)
    (J : Nat → (Str → Option Value) → List (Addr × Obj) → Prop) (h0 : J 0 m news) (hJ : ∀ i m₁ news₁, J i m₁ news₁ → ∃ v, LC news₁ c v)
    (turn : ∀ i t m₁ news₁ h tk I oI, i < n → J i m₁ news₁ → (∀ p ∈ news₁, p.1 ≠ I) → g.get? I = none → Fr g L h m₁ → News g L h ((I, oI) :: rel [c] h news₁) → LC (rel [c] h news₁) c (some (.int (i : Int) t)) →
      wpAny (model PG w) A (execs body (envX cn sc L fa ccd cl)) (EndO g L [(I, oI)] [I] (J (i + 1)) { s with heap := h, toks := tk } Q) E { s with heap := h, toks := tk })
    (done : ∀ h tk m₁ news₁, Fr g L h m₁ → News g L h news₁ → J n m₁ news₁ → Q .next { s with heap := h, toks := tk }) :
    wpAny (model PG w) A (call (.type "range") [.int (n : Int) t]) (fun xv s₁ => wpAny (model PG w) A (pyIter xv) (fun it s₂ => TurnsAt PG w A g (envX cn sc L fa ccd cl) (.Name x px) body Q E it s₂) E s₁) E s := by
  refine call_range_1 ?_
  have up0 : ∀ b o, s.heap.get? b = some o → (s.heap.push { cls := .type "range", data := .fields #[.int 0 s.toks, .int (n : Int) t, .int 1 (s.toks + 1)] }).get? b = some o := fun b o e => Heap.get?_push_of_some _ e
  have F0 := F.keeps up0
  have N0 := N.grown up0
  generalize hs0 : s.heap.push { cls := .type "range", data := .fields #[.int 0 s.toks, .int (n : Int) t, .int 1 (s.toks + 1)] } = h0' at *
  have hr : IsRange h0' s.heap.objs.size 0 (n : Int) 1 s.toks t (s.toks + 1) := by rw [← hs0]; exact IsRange.new _ _ _ _ _ _ _
  have hsz : Builtin.Range.rangeSize 0 (n : Int) 1 = ((n : Nat) : Int) := by rw [rangeSize_nat]; omega
  refine wpAny_pyIter_range hr (small_one (by omega) (by omega) (by omega) (by omega)) ?_
  have up : ∀ b' o, h0'.get? b' = some o → (h0'.push { cls := .type "range_iterator", data := .fields #[rawInt 0, rawInt (Builtin.Range.rangeSize 0 (n : Int) 1), rawInt 1] }).get? b' = some o := fun b o e => Heap.get?_push_of_some _ e
  have W := LCg.range_walks (prog := PG) (w := w) (I := h0'.objs.size) hh 0 n
  have hI : h0'.get? h0'.objs.size = none := get?_none_ge (Nat.le_refl _)
  have hIg : g.get? h0'.objs.size = none := none_of_up' F0.keep hI
  have hIN : ∀ p ∈ news, p.1 ≠ h0'.objs.size := fun p hp q => by have := (N0 p hp).1; rw [q, hI] at this; cases this
  refine for_core (s := { s with heap := _, toks := _ }) (KTurns.ofWalks W fun i v s Q E st q => letGo_rangeiter q) (fun q => ?_) (fun b hb => by rw [List.mem_singleton.mp hb]; exact hIg) (fun p hp q => hIN p hp (List.mem_singleton.mp q))
    (by show IsRangeIter _ _ _ _ _; rw [hsz]; simpa using Heap.get?_push_size _ rfl) (F0.keeps up) (N0.grown up) J h0 (fun b hb hn => absurd hb hn) ?_ (fun h tk m₁ news₁ => done h tk m₁ news₁)
  · have := F0.ns.lt
    have h2 : L = h0'.objs.size := List.mem_singleton.mp q
    rw [h2] at this
    exact Nat.lt_irrefl _ this
  · rintro i v m₁ news₁ h tk own hi hst' ⟨t', rfl⟩ hJ1 hw hown hcov F₁ N₁
    obtain ⟨oI, hoI⟩ : ∃ oI, h.get? h0'.objs.size = some oI := ⟨_, hst'⟩
    have hmem := hcov _ (.head _) _ hoI
    obtain ⟨v0, hlc⟩ := hJ i m₁ news₁ hJ1
    have hcI : c ≠ h0'.objs.size := by
      obtain ⟨o, hm⟩ := hlc.key
      exact fun q => hw _ hm (List.mem_singleton.mpr q)
    have N₁' : News g L h ((h0'.objs.size, oI) :: news₁) := fun p hp => by
      rcases List.mem_cons.mp hp with rfl | hp
      · exact N₁ _ (List.mem_append_left _ hmem)
      · exact N₁ _ (List.mem_append_right _ hp)
    refine wpAny_assign_Name ?_
    refine sC F₁ N₁' (hlc.sub fun o hm => .tail _ hm) hc ?_ hk hx
    intro h₂ F₂ N₂ C₂
    rw [rel_cons (by simpa using Ne.symm hcI)] at N₂ C₂
    have C₂' : LC (rel [c] h₂ news₁) c (some (.int (i : Int) t')) := by
      obtain ⟨o, hm, hd⟩ := C₂
      rcases List.mem_cons.mp hm with e | hm
      · exact absurd (congrArg Prod.fst e) hcI
      · exact ⟨o, hm, by rw [hd, Int.zero_add]⟩
    refine wpAny_mono (turn i t' m₁ news₁ h₂ _ h0'.objs.size oI hi hJ1 (fun p hp q => hw p hp (List.mem_singleton.mpr q)) hIg F₂ N₂ C₂') (fun f s₄ h₄ => ?_) fun _ _ e => e
    have fin : (∃ h' tk' m' news', s₄ = { s with heap := h', toks := tk' } ∧ Fr g L h' m' ∧ News g L h' ([(h0'.objs.size, oI)] ++ news') ∧ (∀ p ∈ news', p.1 ∉ [h0'.objs.size]) ∧ J (i + 1) m' news') →
        ∃ h' tk' m' news', s₄ = { s with heap := h', toks := tk' } ∧ Fr g L h' m' ∧ News g L h' (own ++ news') ∧ (∀ p ∈ news', p.1 ∉ [h0'.objs.size]) ∧ J (i + 1) m' news' := by
      rintro ⟨h', tk', m', news', rfl, F', N', hw', hJ'⟩
      refine ⟨h', tk', m', news', rfl, F', fun p hp => ?_, hw', hJ'⟩
      rcases List.mem_append.mp hp with q | q
      · have e1 := List.mem_singleton.mp (hown p q)
        have e2 : p.2 = oI := by have := (N₁ p (List.mem_append_left _ q)).1; rw [e1, hoI] at this; exact (Option.some.inj this).symm
        rw [show p = (h0'.objs.size, oI) from Prod.ext e1 e2]
        exact N' _ (.head _)
      · exact N' p (List.mem_append_right _ q)
    cases f with
    | ret v => exact h₄
    | brk => exact h₄
    | next => exact fin h₄
    | cont => exact fin h₄
end
section
variable {w : World} {A : Around} {s : Shared} {E : Value → Shared → Prop}
/-- the least of a word's rows -/
theorem law_told2 {Q : Value → Shared → Prop} {scope : Scope} {e : Expr} (hsc : (fdAt w 343).map (·.scope) = some scope) (hst : lastMin w = some e)
    {g : Heap} {L sl cl wl hf x dx bl td cel nl vl fa : Addr} {Fx news : List (Addr × Obj)} {svs : List Value} {ns : List Int} {W D P k : Nat} {cols : Nat → Nat → Nat} {ra : Nat → Addr} {cell cs : Nat → Nat → Int} {ea mk : Int} {b : List (Str × Int)} {nms : List Str} {vls : List Int} {m : Str → Option Value} {tk : Tok}
    (X : Fix w g L Fx sl cl wl hf x dx svs ns W D P cols) (Y : Mut w Fx news L x dx bl td hf cel nl vl ra W D P cell cs ea mk b nms vls) (C : LC news (L + 2) (some (.int (k : Int) tk))) (hk : k < 6)
    (F : Fr g L s.heap m) (N : News g L s.heap news) (hhd : A.handled = none)
    (done : ∀ h' tk' t, Fr g L h' m → News g L h' news → Q (.int (lmin (picks D cell (cols k))) t) { s with heap := h', toks := tk' }) :
    wpAny (model PG w) A (eval e (envX (Str.ofString "law") scope L fa (.ref 342) (cellsFrom (L + 1) scope.names []))) Q E s := by
  have hsc' : some (⟨_, _, _, _, _⟩ : Scope) = some scope := hsc
  injection hsc' with hsc'
  subst hsc'
  have hst' : some (Expr.Call _ (Expr.ListComp _ _ _ _ :: _) _ _) = some e := hst
  injection hst' with e1
  subst e1
  have hD3 := X.hD
  have hW4 := X.hW.2
  obtain ⟨tD, hdep⟩ := X.depC
  walk_at "goes"
  refine b_min F X.B ?_ (by rfl) (by rfl)
  walk_at "goes"
  refine my_ListComp (by rfl) (by decide) (by rfl) (by decide) ?_
  walk_at "goes"
  refine b_range F X.B ?_ (by rfl) (by rfl)
  walk_at "goes"
  refine nC N (hdep.sub fun o hm => Y.fx _ hm) (by rfl) ?_ (by rfl) (by rfl) (by decide)
  walk_at "goes"
  refine csrc_rng (fun r y own => (∃ t, y = .int (cell r (cols k r)) t) ∧ own = []) hhd (by omega) (by rfl) (by rfl) ?_ ?_
  · intro r t C3 m₃ h3 tk3 E' hr hn hm k3
    have NI : ∀ {a : Addr} {vs : List Value}, LL news a vs → h3.IsList a vs.toArray := fun q => isList_keeps (q.at N) k3
    have c1 : h3.IsCell (L + 3) (some (.ref cel)) := cell_at (Y.celC.at N) fun o e => k3 _ o e
    have c2 : h3.IsCell (L + 5) (some (.ref cl)) := cell_at ((X.colC.sub fun o hm => Y.fx _ hm).at N) fun o e => k3 _ o e
    have c3 : h3.IsCell (L + 2) (some (.int (k : Int) tk)) := cell_at (C.at N) fun o e => k3 _ o e
    walk_at "goes"
    refine sub_list (NI Y.celL) (by omega) (by omega) (v := .ref (ra r)) (by rw [Int.toNat_natCast]; simp [hr]) ?_ (by with_unfolding_all rfl)
    walk_at "goes"
    obtain ⟨cvs, hcl, hcv⟩ := X.clI
    obtain ⟨lk, lvs, hlk, hlkl, hli⟩ := hcv k hk
    refine sub_list (NI (hcl.sub fun o hm => Y.fx _ hm)) (by omega) (by omega) (by rw [Int.toNat_natCast]; exact hlk) ?_ (by with_unfolding_all rfl)
    walk_at "goes"
    obtain ⟨tc, hcx⟩ := hli.get r ((cols k r : Nat) : Int) (by simp [hr])
    refine sub_list (NI (hlkl.sub fun o hm => Y.fx _ hm)) (by omega) (by omega) (by rw [Int.toNat_natCast]; exact hcx) ?_ (by with_unfolding_all rfl)
    obtain ⟨rvs, hrl, hri⟩ := Y.row r hr
    have hcw := X.cw k hk r hr
    obtain ⟨tr2, hrx⟩ := hri.get (cols k r) (cell r (cols k r)) (by simp [hcw])
    refine sub_list (NI hrl) (by omega) (by omega) (by rw [Int.toNat_natCast]; exact hrx) ?_ (by with_unfolding_all rfl)
    exact eltEnd_keeps hn ⟨_, rfl⟩ ⟨h3, _, rfl, fun _ _ e => e⟩
  · intro h3 I tk3 hI k3
    refine finV_plain _ k3 (fun b hb => by rw [List.mem_singleton.mp hb]; exact hI) ?_
    intro D4 h4 tk4 hmade k4
    obtain ⟨ys, hD4, hyl, hyv, hyn⟩ := hmade
    have k4 : ∀ b o, s.heap.get? b = some o → h4.get? b = some o := k4
    have F4 := F.keeps k4
    have N4 := N.grown k4
    walk_at "goes"
    refine min_list_N hhd F4 N4 (lst_list hD4) (ints_of hyl hyv) (by simp; omega) ?_
    intro h5 M t5 tk5 F5 N5 hM hle
    rw [show M = lmin (picks D cell (cols k)) from lmin_eq hM hle]
    exact done h5 tk5 t5 F5 N5
end
end

-- M14
section
section
variable {w : World} {A : Around} {s : Shared} {E : Value → Shared → Prop} {g : Heap} {L sl cl wl hf x dx bl : Addr} {Fx : List (Addr × Obj)} {svs : List Value} {ns : List Int} {W D P : Nat} {cols : Nat → Nat → Nat}
set_option maxHeartbeats 8000000 in
/-- the last loop -/
theorem law_last {Q : Flow → Shared → Prop} {scope : Scope} {st : Stmt} (hsc : (fdAt w 343).map (·.scope) = some scope) (hst : (lawSts w)[11]? = some st)
    {td cel nl vl fa : Addr} {news : List (Addr × Obj)} {ra : Nat → Addr} {m : Str → Option Value} {cell : Nat → Nat → Int} {sums mark : Int} {b : List (Str × Int)}
    (X : Fix w g L Fx sl cl wl hf x dx svs ns W D P cols) (Y : Mut w Fx news L x dx bl td hf cel nl vl ra W D P cell cell sums mark b (b.map (·.1)) (b.map (·.2))) (Z : Loc m x nl vl P sums mark)
    (F : Fr g L s.heap m) (N : News g L s.heap news) (hroom : A.depth < 500) (hhd : A.handled = none)
    (hE : PassesOwn (model PG w) A (envX (Str.ofString "law") scope L fa (.ref 342) (cellsFrom (L + 1) scope.names [])) E)
    (done : ∀ h' tk' m' news', Fr g L h' m' → News g L h' news' → (∀ p ∈ Fx, p ∈ news') → Q .next { s with heap := h', toks := tk' }) :
    wpAny (model PG w) A (exec st (envX (Str.ofString "law") scope L fa (.ref 342) (cellsFrom (L + 1) scope.names []))) Q E s := by
  have hsc0 := hsc
  have hsc' : some (⟨_, _, _, _, _⟩ : Scope) = some scope := hsc
  injection hsc' with hsc'
  subst hsc'
  have hst' : some (Stmt.For _ _ [Stmt.If (Expr.Compare _ _ (_ :: _) _) _ _ _] _ _) = some st := hst
  injection hst' with e1
  subst e1
  have hD3 := X.hD
  have hW4 := X.hW
  refine For_turns F ?_ (by intro _; with_unfolding_all rfl) hE
  walk_at "goes"
  refine b_range F X.B ?_ (by rfl) (by rfl)
  walk_at "goes"
  refine for_rngC (n := 6) (c := L + 2) hhd (by omega) F N (by rfl) (by rfl) (by rfl)
    (fun i m₁ news₁ => Mut w Fx news₁ L x dx bl td hf cel nl vl ra W D P cell cell sums mark b (b.map (·.1)) (b.map (·.2)) ∧ Loc m₁ x nl vl P sums mark) ⟨Y, Z⟩ (fun i m₁ news₁ h => h.1.atC) ?_ ?_
  · rintro i ti m₁ news₁ h1 tk1 I oI hi ⟨Y1, Z1⟩ hne gI F1 N1 C1
    have hhd' := hhd
    have Yr := Y1.atV X.xin C1
    have keyr : ∀ p ∈ rel [L + 2] h1 news₁, p.1 ≠ I := fun p hp => by
      obtain ⟨o, hm⟩ := rel_key hp
      exact hne (p.1, o) hm
    generalize hq1 : rel [L + 2] h1 news₁ = news2 at *
    have Y2 := Yr.cons (oI := oI) X.xin keyr
    have X2 := X.cons (I, oI)
    have C2 : LC ((I, oI) :: news2) (L + 2) (some (.int (i : Int) ti)) := C1.sub fun o hm => .tail _ hm
    have hmh := Z1.mh
    have S := Y2.sk.at N1
    obtain ⟨r0, _, _, _, _, _, _, _, _, Yh⟩ := id S
    obtain ⟨wvs, hwl, hws⟩ := X2.wlI
    obtain ⟨key, hkey⟩ : ∃ key, wd6[i]? = some key := ⟨_, List.getElem?_eq_getElem (by show i < 6; exact hi)⟩
    obtain ⟨tkey, hkx⟩ := strs_get hws hkey
    walk_at "goes"
    refine m_check (X.B.keeps F1.keep) Yh.hI ?_
    refine callWith_F (fnAt_K (X.B.keeps F1.keep) (by kernel_rfl)) ?_ (by with_unfolding_all rfl) (by with_unfolding_all rfl)
    walk_at "goes"
    refine nC N1 (X2.worC.sub fun o hm => Y2.fx _ hm) (by rfl) ?_ (by rfl) (by rfl) (by decide)
    walk_at "goes"
    refine nC N1 C2 (by rfl) ?_ (by rfl) (by rfl) (by decide)
    walk_at "goes"
    refine sub_list ((hwl.sub fun o hm => Y2.fx _ hm).at N1) (by omega) (by omega) (by rw [Int.toNat_natCast]; exact hkx) ?_ (by with_unfolding_all rfl)
    walk_at "goes"
    refine ⟨fnAt_K (X.B.keeps F1.keep) (by kernel_rfl), ?_⟩
    obtain ⟨H, hH, hS⟩ := X2.hs i hi key hkey
    refine hh_check (H := H) (X.B.keeps F1.keep) S (fun b o e => (hH b o e).elim (F1.keep _ _) fun z => (N1 _ (Y2.fx _ z)).1) hS (X.cw i hi) (by omega) (by omega) (by omega) (by show A.depth < 650; omega) hhd ?_
    intro h2 tk2 t2 K2
    have F2 := F1.keeps K2.all
    have N2 := N1.grown K2.all
    refine cut_state (s := { s with heap := h1, toks := tk1 }) (h := h2) ?_
    intro tk2'
    refine law_told2 hsc0 (by rfl) X2 Y2 C2 hi F2 N2 hhd ?_
    intro h3 tk3 t3 F3 N3
    walk_at "goes"
    refine ne_int ?_
    rw [bne_self_int]
    walk_at "goes"
    exact endO_next rfl F3 N3 (fun p hp => by simpa using keyr p hp) ⟨Yr, Z1⟩
  · rintro h1 tk1 m₁ news₁ F1 N1 ⟨Y1, Z1⟩
    exact done h1 tk1 m₁ news₁ F1 N1 Y1.fx
end
end

-- M15
section
section
variable {w : World} {A : Around} {E : Value → Shared → Prop} {s : Shared} {Q : Value → Shared → Prop}
/-- for ... in range(n) within a block that keeps its name in a cell of its own -/
theorem csrcC_rng {elt : Expr} {x : Str} {px : Pos} {scope : Scope} {cl : List (Str × Addr)} {env : Env} {Fin : Shared → List Addr → Nat → (Nat → Value → List (Addr × Obj) → Prop) → Prop} {n : Nat} {t : Tok} (val : Nat → Value → List (Addr × Obj) → Prop) (hh : A.handled = none) (hn : n ≤ 64)
    (hk : scope.kind = .function) (hx : ∀ c C, (compEnvC scope ((x, c) :: cl) C env).kindOf x = some .cell)
    (turn : ∀ i t C m₃ h tk (E' : Value → Shared → Prop), i < n → h.Ns C m₃ → h.IsCell (C + 1) (some (.int (i : Int) t)) → (∀ b o, s.heap.get? b = some o → h.get? b = some o) →
      wpAny (model PG w) A (eval elt (compEnvC scope ((x, C + 1) :: cl) C env)) (EltEndC val i C { s with heap := h, toks := tk }) E' { s with heap := h, toks := tk })
    (fin : ∀ h₁ I tk, s.heap.get? I = none → (∀ b o, s.heap.get? b = some o → h₁.get? b = some o) → Fin { s with heap := h₁, toks := tk } [I] n val) :
    wpAny (model PG w) A (call (.type "range") [.int (n : Int) t]) (fun xv s₁ => wpAny (model PG w) A (pyIter xv) (fun it s₂ => CSrcC PG w A (.Name x px) elt scope cl x env Fin it s₂) E s₁) E s := by
  refine call_range_1 ?_
  have up0 : ∀ b o, s.heap.get? b = some o → (s.heap.push { cls := .type "range", data := .fields #[.int 0 s.toks, .int (n : Int) t, .int 1 (s.toks + 1)] }).get? b = some o := fun b o e => Heap.get?_push_of_some _ e
  have hr : IsRange (s.heap.push { cls := .type "range", data := .fields #[.int 0 s.toks, .int (n : Int) t, .int 1 (s.toks + 1)] }) s.heap.objs.size 0 (n : Int) 1 s.toks t (s.toks + 1) := IsRange.new _ _ _ _ _ _ _
  generalize hs0 : s.heap.push { cls := .type "range", data := .fields #[.int 0 s.toks, .int (n : Int) t, .int 1 (s.toks + 1)] } = h0 at *
  have hsz : Builtin.Range.rangeSize 0 (n : Int) 1 = ((n : Nat) : Int) := by rw [rangeSize_nat]; omega
  refine wpAny_pyIter_range hr (small_one (by omega) (by omega) (by omega) (by omega)) ?_
  have up : ∀ b' o, h0.get? b' = some o → (h0.push { cls := .type "range_iterator", data := .fields #[rawInt 0, rawInt (Builtin.Range.rangeSize 0 (n : Int) 1), rawInt 1] }).get? b' = some o := fun b o e => Heap.get?_push_of_some _ e
  have W := LCg.range_walks (prog := PG) (w := w) (I := h0.objs.size) hh 0 n
  have hI0 : h0.get? h0.objs.size = none := get?_none_ge (Nat.le_refl _)
  have hI : s.heap.get? h0.objs.size = none := none_of_up up0 hI0
  refine ⟨_, _, _, n, _, _, _, val, rfl, KTurns.ofWalks W fun i v s Q E st q => letGo_rangeiter q, fun s Q E st q => W.self 0 s Q E st q, fun i h st b hb => ?_, by rw [sizeLine_eq]; omega,
    by show IsRangeIter _ _ _ _ _; rw [hsz]; simpa using Heap.get?_push_size _ rfl, fun b hb => ?_, ?_, fin _ _ _ hI fun b o e => up _ _ (up0 _ _ e)⟩
  · rw [List.mem_singleton.mp hb]; exact ⟨_, st⟩
  · rw [List.mem_singleton.mp hb]
    show h0.objs.size < (h0.push _).objs.size
    rw [Heap.size_push]; exact Nat.lt_succ_self _
  · rintro i v C m₃ h tk E' hi ⟨t', rfl⟩ hn' ⟨cv, hcv⟩ hC hC1 kk
    obtain ⟨oc, hoc, hdc⟩ := hcv
    refine wpAny_assign_Name (wpAny_storeName_cell hk (hx _ _) (by simp [compEnvC]) ⟨oc, hoc, hdc⟩ fun h₂ hv₂ hs₂ => ?_)
    have hCC : C ≠ C + 1 := Nat.ne_of_lt (Nat.lt_succ_self _)
    have keep : ∀ b o, s.heap.get? b = some o → h₂.get? b = some o := fun b o e => by
      have e2 := up _ _ (up0 _ _ e)
      have hb1 : b ≠ C + 1 := fun q => by
        have hC1' : (h0.push { cls := .type "range_iterator", data := .fields #[rawInt 0, rawInt (Builtin.Range.rangeSize 0 (n : Int) 1), rawInt 1] }).get? (C + 1) = none := hC1
        rw [← q, e2] at hC1'; cases hC1'
      refine (hs₂.2 b hb1).trans (kk b o e2 fun q => ?_)
      rw [List.mem_singleton.mp q, hI] at e; cases e
    rw [Int.zero_add] at hv₂
    refine wpAny_mono (turn i t' C m₃ h₂ tk E' hi (hn'.sameBut hs₂ hCC) hv₂ keep) (fun y s₅ h₅ => ?_) fun _ _ e => e
    obtain ⟨h', tk', m', own, rfl, a1, a2, a3, a4, a5, a6⟩ := h₅
    refine ⟨h', tk', m', own, rfl, a1, a2, fun b o hb hb1 e => a3 b o hb hb1 ((hs₂.2 b hb1).trans e), a4, fun p hp => ⟨?_, (a5 p hp).2⟩, a6⟩
    have z : h₂.get? p.1 = none := (a5 p hp).1
    have hp1 : p.1 ≠ C + 1 := fun q => by obtain ⟨o, e, _⟩ := hv₂; rw [q, e] at z; cases z
    exact (hs₂.2 _ hp1).symm.trans z
end
end

-- M16
section
def colOf (ns : List Int) (W : Nat) : Nat → Nat → Nat := fun a r => numAt ns (1 + a * 3 + r) % W
section
variable {w : World} {A : Around} {s : Shared} {E : Value → Shared → Prop}
set_option maxHeartbeats 8000000 in
/-- columns = [[...] ...] -/
theorem law_columns {Q : Flow → Shared → Prop} {scope : Scope} {st : Stmt} (hsc : (fdAt w 343).map (·.scope) = some scope) (hst : (lawSts w)[4]? = some st)
    {g : Heap} {L fa sl : Addr} {news : List (Addr × Obj)} {svs : List Value} {ns : List Int} {W D : Nat} {m : Str → Option Value} {tD tW : Tok} {v0 : Option Value} (B : Bs w g) (F : Fr g L s.heap m) (N : News g L s.heap news)
    (hscr : LC news (L + 1) (some (.ref sl))) (hsl : g.IsList sl svs.toArray) (hsi : IntsAre svs ns) (hsn : ns.length ≤ 63)
    (hdep : LC news (L + 6) (some (.int (D : Int) tD))) (hwid : LC news (L + 7) (some (.int (W : Int) tW))) (hcc : LC news (L + 5) v0) (hW0 : 0 < W) (hW : W ≤ 8) (hD : D ≤ 3) (hroom : A.depth < 500) (hhd : A.handled = none)
    (done : ∀ h' tk' cl (ca : Nat → Addr) robj, Fr g L h' m → News g L h' ((cl, LCg.lst ((List.range 6).map fun r => Value.ref (ca r))) :: (robj ++ rel [L + 5] h' news)) → LC (rel [L + 5] h' news) (L + 5) (some (.ref cl)) →
      (∀ k < 6, ∃ zs, (ca k, LCg.lst zs) ∈ robj ∧ IntsAre zs ((List.range D).map fun r => ((colOf ns W k r : Nat) : Int))) → Q .next { s with heap := h', toks := tk' }) :
    wpAny (model PG w) A (exec st (envX (Str.ofString "law") scope L fa (.ref 342) (cellsFrom (L + 1) scope.names []))) Q E s := by
  have hsc' : some (⟨_, _, _, _, _⟩ : Scope) = some scope := hsc
  injection hsc' with hsc'
  subst hsc'
  have hst' : some (Stmt.Assign (_ :: _) (Expr.ListComp (Expr.ListComp _ _ _ _) _ _ _) _) = some st := hst
  injection hst' with e1
  subst e1
  refine wpAny_Assign_Name ?_ (by with_unfolding_all rfl)
  refine my_ListComp_c (cx := Str.ofString "at") (by rfl) (fun _ => by rfl) (fun _ => by rfl) (by rfl) (by decide) ?_
  walk_at "goes"
  refine b_range F B ?_ (by rfl) (by rfl)
  walk_at "goes"
  refine csrcC_rng (n := 6) (fun k y own => ∃ l zs, y = Value.ref l ∧ own = [(l, LCg.lst zs)] ∧ IntsAre zs ((fun k => (List.range D).map fun r => ((colOf ns W k r : Nat) : Int)) k)) hhd (by omega) (by rfl) (fun _ _ => by rfl) ?_ ?_
  · intro k t C m₃ h tk E' hk hn hat up
    have Bh : Bs w h := (B.keeps F.keep).keeps up
    have c1 : h.IsCell (L + 1) (some (.ref sl)) := cell_at (hscr.at N) fun o e => up _ o e
    have c6 : h.IsCell (L + 6) (some (.int (D : Int) tD)) := cell_at (hdep.at N) fun o e => up _ o e
    have c7 : h.IsCell (L + 7) (some (.int (W : Int) tW)) := cell_at (hwid.at N) fun o e => up _ o e
    have hslh : h.IsList sl svs.toArray := isList_keeps (isList_keeps hsl F.keep) up
    refine my_ListComp (by rfl) (by decide) (by rfl) (by decide) ?_
    walk_at "goes"
    refine cBi Bh (by rfl) (by rfl) (by kernel_rfl) (by boot_by_name) (by decide) ?_ (by rfl) (by with_unfolding_all rfl) (by decide)
    walk_at "goes"
    refine csrc_rng (fun r y own => (∃ t, y = .int ((colOf ns W k r : Nat) : Int) t) ∧ own = []) hhd (by omega) (by rfl) (by rfl) ?_ ?_
    · intro r t' C' m₄ h' tk' E'' hr hn' hm' up'
      have Bh' : Bs w h' := Bh.keeps up'
      have d1 := cell_at c1 fun o e => up' _ o e
      have d7 := cell_at c7 fun o e => up' _ o e
      have da := cell_at hat fun o e => up' _ o e
      walk_at "goes"
      refine cGl (v := .ref 338) Bh' (by rfl) (by kernel_rfl) ?_ (by rfl) (by with_unfolding_all rfl) (by decide)
      refine callWith_F (fnAt_K Bh' (by kernel_rfl)) ?_ (by with_unfolding_all rfl) (by with_unfolding_all rfl)
      walk_at "goes"
      refine mul_int ?_ (IntMulOk.of_right (intBits_le_64 (by decide) (by decide)))
      walk_at "goes"
      refine ⟨fnAt_K Bh' (by kernel_rfl), ?_⟩
      rw [show (1 : Int) + (k : Int) * 3 + (r : Int) = ((1 + k * 3 + r : Nat) : Int) by push_cast; rfl]
      refine number_spec Bh' (isList_keeps hslh up') hsi hsn (by omega) (by show A.depth < 850; omega) ?_
      intro h5 tk5 t5 K5
      have e7 := cell_at d7 fun o e => K5.all _ o e
      walk_at "goes"
      refine mod_int' (by omega) ?_
      rw [show Int.fmod ((numAt ns (1 + k * 3 + r) : Nat) : Int) (W : Int) = ((colOf ns W k r : Nat) : Int) from fmodN _ W]
      exact eltEnd_keeps hn' ⟨_, rfl⟩ ⟨h5, _, rfl, fun _ _ e => K5.all _ _ e⟩
    · intro h' I' tk' hI' up'
      refine finV_plain _ up' (fun b hb => by rw [List.mem_singleton.mp hb]; exact hI') ?_
      intro D5 h5 tk5 hmade k5
      obtain ⟨zs, hD5, hzl, hzv, hzn⟩ := hmade
      have k5 : ∀ b o, h.get? b = some o → h5.get? b = some o := k5
      have hzn : h.get? D5 = none := hzn
      exact ⟨h5, _, m₃, [(D5, LCg.lst zs)], rfl, hn.at' fun o e => k5 _ o e, ⟨_, cell_at hat fun o e => k5 _ o e⟩, fun b o _ _ e => k5 _ _ e, ⟨D5, zs, rfl, rfl, ints_of hzl hzv⟩, fun p hp => by rw [List.mem_singleton.mp hp]; exact ⟨hzn, hD5⟩, by simp⟩
  · intro h1 I tk1 hI up1
    refine finV_rows F N hI up1 ?_
    intro h2 tk2 cl ca robj F2 N2 r2 r3 r5 r6 up2 r7
    have hm0 : LC ((cl, LCg.lst ((List.range 6).map fun r => Value.ref (ca r))) :: (robj ++ news)) (L + 5) v0 := hcc.sub fun o hm => .tail _ (List.mem_append_right _ hm)
    obtain ⟨oc, hm⟩ := hcc.key
    have hc3 := (N _ hm).1
    refine sC F2 N2 hm0 (by rfl) ?_ (by rfl) (by rfl)
    intro h3 F3 N3 C3
    have ncl : (L + 5 : Nat) ≠ cl := fun q => by rw [show ((L + 5, oc) : Addr × Obj).1 = cl from q, r5] at hc3; cases hc3
    have nrob : ∀ p ∈ robj, p.1 ≠ L + 5 := fun p hp q => by
      obtain ⟨i, hi, e⟩ := r7 p hp
      have := (r6 i hi).1
      rw [← e, q] at this
      rw [show ((L + 5, oc) : Addr × Obj).1 = L + 5 from rfl, this] at hc3; cases hc3
    have er : rel [L + 5] h3 robj = robj := by
      unfold rel
      refine (List.map_congr_left fun p hp => ?_).trans (List.map_id _)
      rw [if_neg (by simpa using nrob p hp)]; rfl
    rw [rel_cons (by simpa using Ne.symm ncl)] at N3 C3
    rw [show rel [L + 5] h3 (robj ++ news) = robj ++ rel [L + 5] h3 news by unfold rel at er ⊢; rw [List.map_append, er]] at N3 C3
    refine done h3 _ cl ca robj F3 N3 ?_ r2
    obtain ⟨o, hm', hd'⟩ := C3
    refine ⟨o, ?_, hd'⟩
    rcases List.mem_cons.mp hm' with e | hm'
    · exact absurd (congrArg Prod.fst e) ncl
    · rcases List.mem_append.mp hm' with hm' | hm'
      · exact absurd rfl (nrob _ hm')
      · exact hm'
end
end

-- M17
section
section
variable {w : World} {A : Around} {s : Shared} {E : Value → Shared → Prop}
theorem shapes_at (B : Bs w s.heap) : ∃ vs : List Value, IsTup s.heap 330 vs.toArray ∧ ∀ j < 6, ∃ (a : Addr) (W D : Nat) (tW tD : Tok), vs[j]? = some (Value.ref a) ∧ IsTup s.heap a #[.int ((W : Nat) : Int) tW, .int ((D : Nat) : Int) tD] ∧ (2 ≤ W ∧ W ≤ 4) ∧ (1 ≤ D ∧ D ≤ 3) := by
  refine ⟨_, ⟨_, B.X 330 _ (by rfl), by rfl, _, by rfl⟩, fun j hj => ?_⟩
  match j, hj with
  | 0, _ => exact ⟨324, 4, 1, _, _, by rfl, ⟨_, B.X 324 _ (by rfl), by rfl, _, by rfl⟩, by decide, by decide⟩
  | 1, _ => exact ⟨325, 2, 1, _, _, by rfl, ⟨_, B.X 325 _ (by rfl), by rfl, _, by rfl⟩, by decide, by decide⟩
  | 2, _ => exact ⟨326, 3, 1, _, _, by rfl, ⟨_, B.X 326 _ (by rfl), by rfl, _, by rfl⟩, by decide, by decide⟩
  | 3, _ => exact ⟨327, 2, 2, _, _, by rfl, ⟨_, B.X 327 _ (by rfl), by rfl, _, by rfl⟩, by decide, by decide⟩
  | 4, _ => exact ⟨328, 3, 2, _, _, by rfl, ⟨_, B.X 328 _ (by rfl), by rfl, _, by rfl⟩, by decide, by decide⟩
  | 5, _ => exact ⟨329, 2, 3, _, _, by rfl, ⟨_, B.X 329 _ (by rfl), by rfl, _, by rfl⟩, by decide, by decide⟩
theorem newList_S {Q : Value → Shared → Prop} {g : Heap} {L : Addr} {m : Str → Option Value} {news : List (Addr × Obj)} {vs : List Value} {wds : List Str} (hs : StrsAre vs wds) (F : Fr g L s.heap m) (N : News g L s.heap news) (hsz : vs.length ≤ sizeLine)
    (h : ∀ h' wl wvs, s.heap.objs.size = wl → StrsAre wvs wds → Fr g L h' m → News g L h' ((wl, { cls := .type "list", data := .seq wvs.toArray }) :: news) → Q (.ref wl) { s with heap := h' }) : wpAny (model PG w) A (newList vs) Q E s :=
  newList_NK F N (fun h' F' N' _ => h h' _ vs rfl hs F' N') hsz
set_option maxHeartbeats 8000000 in
/-- the law's first four statements -/
theorem law_start {Q : Flow → Shared → Prop} {scope : Scope} {rest : List Stmt} (hsc : (fdAt w 343).map (·.scope) = some scope) (hst : (lawSts w).drop 4 = rest)
    {g : Heap} {L fa sl : Addr} {news : List (Addr × Obj)} {svs : List Value} {ns : List Int} {m : Str → Option Value} {v6 v7 v8 : Option Value} (B : Bs w g) (F : Fr g L s.heap m) (N : News g L s.heap news)
    (hscr : LC news (L + 1) (some (.ref sl))) (hsl : g.IsList sl svs.toArray) (hsi : IntsAre svs ns) (hsn : ns.length ≤ 63) (h6 : LC news (L + 6) v6) (h7 : LC news (L + 7) v7) (h8 : LC news (L + 8) v8) (hroom : A.depth < 500) (hhd : A.handled = none)
    (done : ∀ h' tk' m' news' W D P tD tW tP wl wvs, Fr g L h' m' → News g L h' news' → (2 ≤ W ∧ W ≤ 4) → (1 ≤ D ∧ D ≤ 3) → (1 ≤ P ∧ P ≤ 3) → LC news' (L + 6) (some (.int ((D : Nat) : Int) tD)) → LC news' (L + 7) (some (.int ((W : Nat) : Int) tW)) → LC news' (L + 8) (some (.ref wl)) → LL news' wl wvs → StrsAre wvs wd6 →
      m' (Str.ofString "places") = some (.int ((P : Nat) : Int) tP) → (∀ a o, (a, o) ∈ news → a ≠ L + 6 → a ≠ L + 7 → a ≠ L + 8 → (a, o) ∈ news') →
      wpAny (model PG w) A (execs rest (envX (Str.ofString "law") scope L fa (.ref 342) (cellsFrom (L + 1) scope.names []))) Q E { s with heap := h', toks := tk' }) :
    wpAny (model PG w) A (execs (lawSts w) (envX (Str.ofString "law") scope L fa (.ref 342) (cellsFrom (L + 1) scope.names []))) Q E s := by
  have hsc' : some (⟨_, _, _, _, _⟩ : Scope) = some scope := hsc
  injection hsc' with hsc'
  subst hsc'
  subst hst
  refine wpAny_execs_cons ?_
  walk_at "goes"
  refine t__law_number F B ?_ (by rfl) (by rfl)
  refine callWith_F (fnAt_K (B.keeps F.keep) (by kernel_rfl)) ?_ (by with_unfolding_all rfl) (by with_unfolding_all rfl)
  walk_at "goes"
  refine nC N hscr (by rfl) ?_ (by rfl) (by rfl) (by decide)
  walk_at "goes"
  refine ⟨fnAt_K (B.keeps F.keep) (by kernel_rfl), ?_⟩
  refine number_spec (p := 0) (B.keeps F.keep) (isList_keeps hsl F.keep) hsi hsn (by omega) (by show A.depth < 850; omega) ?_
  intro h1 tk1 t1 K1
  have F1 := F.keeps K1.all
  have N1 := N.grown K1.all
  refine storeX_L F1 N1 ?_ (by rfl) (by rfl)
  intro h2 F2 N2
  generalize hpk : numAt ns 0 = hd at *
  refine cut_state (s := s) (h := h2) ?_
  intro tk2
  walk_at "goes"
  refine mod_int' (by decide) ?_
  rw [show Int.fmod (hd : Int) 3 = ((hd % 3 : Nat) : Int) from fmodN _ 3]
  walk_at "goes"
  rw [show (1 : Int) + ((hd % 3 : Nat) : Int) = ((1 + hd % 3 : Nat) : Int) by push_cast; rfl]
  have hP : 1 ≤ 1 + hd % 3 ∧ 1 + hd % 3 ≤ 3 := by omega
  generalize hPe : 1 + hd % 3 = P at *
  refine storeX_L F2 N2 ?_ (by rfl) (by rfl)
  intro h3 F3 N3
  refine cut_state (s := s) (h := h3) ?_
  intro tk3
  walk_at "go"
  refine Assign_Tuple ?_ (by with_unfolding_all rfl) (by with_unfolding_all rfl)
  walk_at "goes"
  refine t__law_shapes F3 B ?_ (by rfl) (by rfl)
  walk_at "goes"
  refine floordiv_int (by decide) ?_
  rw [show Int.fdiv (hd : Int) 3 = ((hd / 3 : Nat) : Int) from fdivN _ 3 (by decide)]
  walk_at "goes"
  refine mod_int' (by decide) ?_
  rw [show Int.fmod ((hd / 3 : Nat) : Int) 6 = ((hd / 3 % 6 : Nat) : Int) from fmodN _ 6]
  have hj : hd / 3 % 6 < 6 := Nat.mod_lt _ (by decide)
  generalize hje : hd / 3 % 6 = j at *
  obtain ⟨shs, hsh, hsa⟩ := shapes_at (s := { s with heap := h3 }) (B.keeps F3.keep)
  obtain ⟨ta, W, D, tW, tD, hx, htp, hW, hD⟩ := hsa j hj
  refine sub_tuple hsh (by omega) hx ?_ (by with_unfolding_all rfl)
  refine unpackN_ F3 N3 htp hhd (by rfl) (by rfl) ?_
  intro h4 F4 N4
  refine assignInOrder_cons ?_
  refine wpAny_assign_Name ?_
  refine sC F4 N4 h7 (by rfl) ?_ (by rfl) (by rfl)
  intro h5 F5 N5 C7
  refine assignInOrder_cons ?_
  refine wpAny_assign_Name ?_
  refine sC F5 N5 (h6.sub fun o hm => rel_keep hm (by simp)) (by rfl) ?_ (by rfl) (by rfl)
  intro h6' F6 N6 C6
  refine assignInOrder_nil ?_
  have C7' := C7.sub (news' := rel [L + 6] h6' (rel [L + 7] h5 news)) fun o hm => rel_keep hm (by simp)
  have C8 : LC (rel [L + 6] h6' (rel [L + 7] h5 news)) (L + 8) v8 := h8.sub fun o hm => rel_keep (rel_keep hm (by simp)) (by simp)
  have kp : ∀ a o, (a, o) ∈ news → a ≠ L + 6 → a ≠ L + 7 → a ≠ L + 8 → (a, o) ∈ rel [L + 6] h6' (rel [L + 7] h5 news) := fun a o hm n6 n7 _ => rel_keep (rel_keep hm (by simpa using n7)) (by simpa using n6)
  generalize hq6 : rel [L + 6] h6' (rel [L + 7] h5 news) = news6 at *
  refine cut_state (s := s) (h := h6') ?_
  intro tk6
  walk_at "goes"
  refine List_ ?_
  walk_at "goes"
  refine newList_S (wds := wd6) (.cons _ _ (.cons _ _ (.cons _ _ (.cons _ _ (.cons _ _ (.cons _ _ .nil)))))) F6 N6 (by rw [sizeLine_eq]; simp) ?_
  intro h8' wl wvs hwl hws F8 N8
  replace hwl : h6'.objs.size = wl := hwl
  refine cut_state (s := s) (h := h8') ?_
  intro tk8
  have n8 : ∀ o, (L + 8, o) ∈ news6 → wl ≠ L + 8 := fun o hm q => absurd (Heap.lt_size (N6 _ hm).1) (by rw [hwl, q]; exact Nat.lt_irrefl _)
  have n8' : wl ≠ L + 8 := by
    obtain ⟨o8, m8, _⟩ := C8
    exact n8 o8 m8
  refine sC F8 N8 (C8.sub fun o hm => .tail _ hm) (by rfl) ?_ (by rfl) (by rfl)
  intro h9 F9 N9 C9
  refine done h9 _ _ _ W D P tD tW _ wl wvs F9 N9 hW hD hP ?_ ?_ C9 ⟨_, rel_keep (.head _) (by simpa using n8')⟩ hws (by rfl) ?_
  · exact C6.sub fun o hm => rel_keep (.tail _ hm) (by simp)
  · exact C7'.sub fun o hm => rel_keep (.tail _ hm) (by simp)
  · exact fun a o hm x6 x7 x8 => rel_keep (.tail _ (kp a o hm x6 x7 x8)) (by simpa using x8)
end
end

-- M18
section
section
variable {w : World} {A : Around} {s : Shared} {E : Value → Shared → Prop}
theorem updF_filter {P : Addr} {o : Obj} {news : List (Addr × Obj)} : UpdF P o ((P, o) :: news.filter fun p => p.1 != P) (fun o' => (P, o') :: news.filter fun p => p.1 != P) :=
  .head fun p hp => by simpa using (List.mem_filter.mp hp).2
set_option maxHeartbeats 8000000 in
/-- def reading -/
theorem law_reading {Q : Flow → Shared → Prop} {scope : Scope} {st : Stmt} (hsc : (fdAt w 343).map (·.scope) = some scope) (hst : (lawSts w)[5]? = some st)
    {g : Heap} {L fa : Addr} {news : List (Addr × Obj)} {m : Str → Option Value} (B : Bs w g) (F : Fr g L s.heap m) (N : News g L s.heap news) (C : CodeHd g 342 340) (ht : (340, tabObj #[]) ∈ news)
    (done : ∀ h' tk' f c' oc vs t nm nm2 qual params body sc5 pos doc pm ctv ps', (lawSts w)[5]? = some (.FunctionDef nm params body [] none [] sc5 none nm2 pos) →
      Fr g L h' (fun y => if y = Str.ofString "reading" then some (.ref f) else m y) →
      News g L h' ((f, fnMade nm qual params body sc5 [(Str.ofString "words", L + 8), (Str.ofString "width", L + 7), (Str.ofString "depth", L + 6), (Str.ofString "columns", L + 5)] doc pm c' ctv) :: (c', oc) :: (340, tabObj ps') :: news.filter fun p => p.1 != 340) →
      oc.data = .fields vs → vs[1]? = some (.str qual t) → Q .next { s with heap := h', toks := tk' }) :
    wpAny (model PG w) A (exec st (envX (Str.ofString "law") scope L fa (.ref 342) (cellsFrom (L + 1) scope.names []))) Q E s := by
  have hsc' : some (⟨_, _, _, _, _⟩ : Scope) = some scope := hsc
  injection hsc' with hsc'
  subst hsc'
  obtain ⟨p, loose, mean, mg, mb, T⟩ := B.T
  have hst0 := hst
  have hst' : some (Stmt.FunctionDef _ _ _ _ _ _ _ _ _ _) = some st := hst
  injection hst' with e1
  subst e1
  refine nestDef_K (by rfl) (by rfl) (by rfl) ?_
  have N' : News g L s.heap ((340, tabObj #[]) :: news.filter fun p => p.1 != 340) := fun q hq => by
    rcases List.mem_cons.mp hq with rfl | hq
    · exact N _ ht
    · exact N _ (List.mem_filter.mp hq).1
  refine nest_K (ps := #[]) F N' T C rfl updF_filter (by trivial) (by rfl) (by with_unfolding_all rfl) ?_
  intro f c' oc vs t ctv doc h1 tk1 F1 N1 hd hv _ _
  refine storeX_L F1 N1 ?_ (by rfl) (by rfl)
  intro h2 F2 N2
  exact done h2 _ f c' oc vs t _ _ _ _ _ _ _ _ _ _ _ hst0 F2 N2 hd hv
end
end

-- M19
section
section
variable {w : World} {A : Around} {s : Shared} {E : Value → Shared → Prop}
set_option maxHeartbeats 8000000 in
/-- heavy = HeavyHitters(places, width, depth, reading); its number is asked -/
theorem law_heavy {Q : Flow → Shared → Prop} {scope : Scope} {st : Stmt} (hsc : (fdAt w 343).map (·.scope) = some scope) (hst : (lawSts w)[6]? = some st)
    {g : Heap} {L fa hf : Addr} {news : List (Addr × Obj)} {W D P : Nat} {m : Str → Option Value} {tD tW tP : Tok} (B : Bs w g) (F : Fr g L s.heap m) (N : News g L s.heap news)
    (hdep : LC news (L + 6) (some (.int ((D : Nat) : Int) tD))) (hwid : LC news (L + 7) (some (.int ((W : Nat) : Int) tW))) (hpl : m (Str.ofString "places") = some (.int ((P : Nat) : Int) tP)) (hrd : m (Str.ofString "reading") = some (.ref hf))
    (hW : 2 ≤ W ∧ W ≤ 4) (hD : 1 ≤ D ∧ D ≤ 3) (hroom : A.depth < 500) (hhd : A.handled = none)
    (done : ∀ h' tk' x dx bl td o1 o2 o3, Fr g L h' (fun y => if y = Str.ofString "heavy" then some (.ref x) else m y) → News g L h' ((x, instObj 321 dx) :: (dx, o1) :: (bl, o2) :: (td, o3) :: news) →
      s.heap.get? x = none → s.heap.get? dx = none → s.heap.get? bl = none → s.heap.get? td = none → x ≠ dx → x ≠ bl → x ≠ td → dx ≠ bl → dx ≠ td → bl ≠ td → (td == sysModules) = false → SK w ((x, instObj 321 dx) :: (dx, o1) :: (bl, o2) :: (td, o3) :: news) x dx bl td hf W D P (fun _ _ => 0) 0 [] 0 →
      Q .next { s with heap := h', toks := tk' }) :
    wpAny (model PG w) A (exec st (envX (Str.ofString "law") scope L fa (.ref 342) (cellsFrom (L + 1) scope.names []))) Q E s := by
  have hsc' : some (⟨_, _, _, _, _⟩ : Scope) = some scope := hsc
  injection hsc' with hsc'
  subst hsc'
  have hst' : some (Stmt.Assign (_ :: _) (Expr.Call _ _ _ _) _) = some st := hst
  injection hst' with e1
  subst e1
  walk_at "goes"
  refine t_HeavyHitters F B ?_ (by rfl) (by rfl)
  refine callWith_K (B.keeps F.keep).X (by kernel_rfl) ?_ (by with_unfolding_all rfl) (by with_unfolding_all rfl)
  walk_at "goes"
  refine nC N hwid (by rfl) ?_ (by rfl) (by rfl) (by decide)
  walk_at "goes"
  refine nC N hdep (by rfl) ?_ (by rfl) (by rfl) (by decide)
  walk_at "goes"
  refine ⟨(B.keeps F.keep).X, ?_⟩
  refine hh_make (B.keeps F.keep) (by omega) (by omega) (by omega) (by omega) (by show A.depth < 600; omega) hhd ?_
  intro h1 tk1 x dx bl td K1 z1 z2 z3 z4 n1 n2 n3 n4 n5 n6 lo S
  have F1 := F.keeps K1.all
  have S1p : ∃ o1 o2 o3, h1.get? x = some (instObj 321 dx) ∧ h1.get? dx = some o1 ∧ h1.get? bl = some o2 ∧ h1.get? td = some o3 := by
    obtain ⟨r, bys, kvs, tW, tD, tE, tS, tN, tM, Y1⟩ := id S
    obtain ⟨o1, o2, o3, q1, q2, q3, _⟩ := Y1.parts
    exact ⟨o1, o2, o3, Y1.hI.inst.1, q1, q2, q3⟩
  obtain ⟨o1, o2, o3, q0, q1, q2, q3⟩ := S1p
  have gno : ∀ a, s.heap.get? a = none → a ≠ L ∧ g.get? a = none := fun a na => by
    refine ⟨fun q => ?_, none_of_up' F.keep na⟩
    obtain ⟨oL, _, _, e, _⟩ := F.ns
    rw [q, e] at na; cases na
  have N1 : News g L h1 ((x, instObj 321 dx) :: (dx, o1) :: (bl, o2) :: (td, o3) :: news) := fun p hp => by
    rcases List.mem_cons.mp hp with rfl | hp
    · exact ⟨q0, gno _ z1⟩
    rcases List.mem_cons.mp hp with rfl | hp
    · exact ⟨q1, gno _ z2⟩
    rcases List.mem_cons.mp hp with rfl | hp
    · exact ⟨q2, gno _ z3⟩
    rcases List.mem_cons.mp hp with rfl | hp
    · exact ⟨q3, gno _ z4⟩
    · exact N.grown K1.all p hp
  have S1 : SK w ((x, instObj 321 dx) :: (dx, o1) :: (bl, o2) :: (td, o3) :: news) x dx bl td hf W D P (fun _ _ => 0) 0 [] 0 := SK.of S N1 (.head _) ⟨_, .tail _ (.head _)⟩ ⟨_, .tail _ (.tail _ (.head _))⟩ ⟨_, .tail _ (.tail _ (.tail _ (.head _)))⟩
  refine storeX_L F1 N1 ?_ (by rfl) (by rfl)
  intro h2 F2 N2
  exact done h2 _ x dx bl td o1 o2 o3 F2 N2 z1 z2 z3 z4 n1 n2 n3 n4 n5 n6 lo S1
set_option maxHeartbeats 8000000 in
theorem law_asks {Q : Flow → Shared → Prop} {scope : Scope} {st : Stmt} (hsc : (fdAt w 343).map (·.scope) = some scope) (hst : (lawSts w)[7]? = some st)
    {g : Heap} {L fa hf x dx bl td : Addr} {news : List (Addr × Obj)} {W D P : Nat} {m : Str → Option Value} {tP : Tok} {cell : Nat → Nat → Int} {ea mk : Int} {b : List (Str × Int)} (B : Bs w g) (F : Fr g L s.heap m) (N : News g L s.heap news)
    (hpl : m (Str.ofString "places") = some (.int ((P : Nat) : Int) tP)) (hhv : m (Str.ofString "heavy") = some (.ref x)) (S : SK w news x dx bl td hf W D P cell ea b mk)
    (hroom : A.depth < 500) (hhd : A.handled = none)
    (done : ∀ h' tk', Fr g L h' m → News g L h' news → Q .next { s with heap := h', toks := tk' }) :
    wpAny (model PG w) A (exec st (envX (Str.ofString "law") scope L fa (.ref 342) (cellsFrom (L + 1) scope.names []))) Q E s := by
  have hsc' : some (⟨_, _, _, _, _⟩ : Scope) = some scope := hsc
  injection hsc' with hsc'
  subst hsc'
  have hst' : some (Stmt.If (Expr.Compare _ _ _ _) _ _ _) = some st := hst
  injection hst' with e1
  subst e1
  have S2 := S.at N
  walk_at "goes"
  obtain ⟨r1, _, _, _, _, _, _, _, _, Yh1⟩ := id S2
  refine p_number_heavy_hitters (B.keeps F.keep) Yh1.hI (by show A.depth < 890; omega) Yh1.hN ?_
  intro h3 tk3 K3
  have F3 := F.keeps K3.all
  have N3 := N.grown K3.all
  refine cut_state (s := s) (h := h3) ?_
  intro tk3'
  walk_at "goes"
  refine ne_int ?_
  rw [bne_self_int]
  walk_at "goes"
  exact done h3 _ F3 N3
end
end

-- M20
section
/-- what a heap keeps of g and of the objects Fx -/
theorem part_heap {g h : Heap} {L : Addr} {m : Str → Option Value} {Fx : List (Addr × Obj)} (F : Fr g L h m) (N : News g L h Fx) :
    ∃ H : Heap, (∀ b o, g.get? b = some o → H.get? b = some o) ∧ (∀ p ∈ Fx, H.get? p.1 = some p.2) ∧ ∀ b o, H.get? b = some o → g.get? b = some o ∨ (b, o) ∈ Fx := by
  refine ⟨hideAll h ((List.range h.objs.size).filter fun b => !((g.get? b).isSome || Fx.any fun p => p.1 == b)), fun b o e => hideAll_get _ (F.keep b o e) ?_, fun p hp => hideAll_get _ (N p hp).1 ?_, fun b o e => ?_⟩
  · intro q
    have := (List.mem_filter.mp q).2
    simp [e] at this
  · intro q
    have h1 := (List.mem_filter.mp q).2
    have h2 : (Fx.any fun r => r.1 == p.1) = true := List.any_eq_true.mpr ⟨p, hp, by simp⟩
    rw [h2] at h1
    simp at h1
  · have e1 := of_hideAll _ e
    have hb := Heap.lt_size e1
    cases q : ((g.get? b).isSome || Fx.any fun p => p.1 == b) with
    | true =>
      rcases Bool.or_eq_true_iff.mp q with q | q
      · obtain ⟨o', e2⟩ := Option.isSome_iff_exists.mp q
        have e3 := F.keep _ _ e2
        rw [e1] at e3
        cases e3
        exact .inl e2
      · obtain ⟨p, hp, ep⟩ := List.any_eq_true.mp q
        have ep : p.1 = b := eq_of_beq ep
        have e3 := (N p hp).1
        rw [ep, e1] at e3
        have e4 : p.2 = o := (Option.some.inj e3).symm
        exact .inr (by rw [← ep, ← e4]; exact hp)
    | false =>
      have e4 := hideAll_none (h := h) ((List.range h.objs.size).filter fun b => !((g.get? b).isSome || Fx.any fun p => p.1 == b)) (List.mem_filter.mpr ⟨List.mem_range.mpr hb, by rw [q]; rfl⟩)
      rw [e4] at e
      cases e
theorem ne_cell {g h : Heap} {L a c : Addr} {o : Obj} {news : List (Addr × Obj)} {v : Option Value} (N : News g L h news) (X : LC news c v) (hm : (a, o) ∈ news) (hd : ∀ v, o.data ≠ .cell v) : a ≠ c := fun q => by
  obtain ⟨oc, hc, e⟩ := X
  have e1 := (N _ hc).1
  have e2 := (N _ hm).1
  rw [show ((a, o) : Addr × Obj).1 = ((c, oc) : Addr × Obj).1 from q, e1] at e2
  have e3 : oc = o := Option.some.inj e2
  exact hd v (e3 ▸ e)
theorem ne_tab {g h : Heap} {L a P : Addr} {ps : Array Value} {o : Obj} {news : List (Addr × Obj)} (N : News g L h news) (X : (P, tabObj ps) ∈ news) (hm : (a, o) ∈ news) (hd : o.cls ≠ .none) : a ≠ P := fun q => by
  have e1 := (N _ X).1
  have e2 := (N _ hm).1
  rw [show ((a, o) : Addr × Obj).1 = ((P, tabObj ps) : Addr × Obj).1 from q, e1] at e2
  have e3 : tabObj ps = o := Option.some.inj e2
  exact hd (e3 ▸ rfl)
/-- what never changes, from the objects made so far -/
theorem fix_of {w : World} {nm nm2 qual : Str} {params : Arguments} {body : List Stmt} {scope : Scope} {pos : Pos} (hst : (lawSts w)[5]? = some (.FunctionDef nm params body [] none [] scope none nm2 pos))
    {g h : Heap} {L sl cl wl f c' : Addr} {m : Str → Option Value} {Fx : List (Addr × Obj)} {svs wvs : List Value} {ns : List Int} {W D P : Nat} {tD tW : Tok} {ca : Nat → Addr} {doc pm ctv : Value} {oc : Obj} {vs : Array Value} {t : Tok}
    (B : Bs w g) (F : Fr g L h m) (N : News g L h Fx) (hsl : g.IsList sl svs.toArray) (hsi : IntsAre svs ns) (hsn : ns.length ≤ 63)
    (c1 : LC Fx (L + 1) (some (.ref sl))) (c5 : LC Fx (L + 5) (some (.ref cl))) (c6 : LC Fx (L + 6) (some (.int ((D : Nat) : Int) tD))) (c7 : LC Fx (L + 7) (some (.int ((W : Nat) : Int) tW))) (c8 : LC Fx (L + 8) (some (.ref wl)))
    (hwl : LL Fx wl wvs) (hws : StrsAre wvs wd6) (hcl : LL Fx cl ((List.range 6).map fun r => Value.ref (ca r))) (hrows : ∀ k < 6, ∃ zs, LL Fx (ca k) zs ∧ IntsAre zs ((List.range D).map fun r => ((colOf ns W k r : Nat) : Int)))
    (hW : 2 ≤ W ∧ W ≤ 4) (hD : 1 ≤ D ∧ D ≤ 3) (hP : 1 ≤ P ∧ P ≤ 3)
    (hf : (f, fnMade nm qual params body scope [(Str.ofString "words", L + 8), (Str.ofString "width", L + 7), (Str.ofString "depth", L + 6), (Str.ofString "columns", L + 5)] doc pm c' ctv) ∈ Fx) (hc : (c', oc) ∈ Fx) (hd : oc.data = .fields vs) (hv : vs[1]? = some (.str qual t)) (x dx : Addr) :
    Fix w g L ((x, instObj 321 dx) :: Fx) sl cl wl f x dx svs ns W D P (colOf ns W) := by
  obtain ⟨H, H1, H2, H3⟩ := part_heap F N
  have cH : ∀ {c : Addr} {v : Option Value}, LC Fx c v → H.IsCell c v := fun ⟨o, a, b⟩ => ⟨o, H2 _ a, b⟩
  have lH : ∀ {a : Addr} {vs : List Value}, LL Fx a vs → H.IsList a vs.toArray := fun ⟨k, a⟩ => ⟨_, H2 _ a, rfl, k, rfl⟩
  have kc : ∀ {a : Addr} (o : Obj), (a, o) ∈ Fx → (a, o) ∈ (x, instObj 321 dx) :: Fx := fun o hm => .tail _ hm
  have hcv : ∀ k < 6, ((List.range 6).map fun r => Value.ref (ca r))[k]? = some (Value.ref (ca k)) := fun k hk => by simp [hk]
  refine ⟨B, c1.sub kc, c5.sub kc, ⟨tD, c6.sub kc⟩, ⟨tW, c7.sub kc⟩, c8.sub kc, hsl, hsi, hsn, ⟨wvs, hwl.sub kc, hws⟩, ⟨_, hcl.sub kc, fun k hk => ?_⟩, fun k _ r _ => Nat.mod_lt _ (by omega), hW, hD, hP, .head _, fun k hk key hkey => ⟨H, fun b o e => (H3 b o e).imp id fun q => .tail _ q, ?_⟩⟩
  · obtain ⟨zs, h1, h2⟩ := hrows k hk
    exact ⟨ca k, zs, hcv k hk, h1.sub kc, h2⟩
  · obtain ⟨zs, h1, h2⟩ := hrows k hk
    obtain ⟨kw, hwm⟩ := id hwl
    exact reading_spec hst (H := H) (hf := f) (B.keeps H1) (H2 _ hf) ⟨_, _, _, rfl⟩ ⟨c', oc, vs, t, rfl, H2 _ hc, hd, hv⟩ (cH c8) (cH c7) (cH c6) (cH c5) (H2 _ hwm) hws (lH hcl) (hcv k hk) (lH h1) h2 hkey (fun i y hi hy => wd6_ne hi hy hkey) (by show (6 : Nat) ≤ 64; omega) (by omega) (by omega)
end

-- M21
section
theorem lawSts_4 (w : World) : ∃ s4 s5 s6 s7 s8 s9 s10 s11 s12, (lawSts w).drop 4 = [s4, s5, s6, s7, s8, s9, s10, s11, s12] ∧ (lawSts w)[4]? = some s4 ∧ (lawSts w)[5]? = some s5 ∧ (lawSts w)[6]? = some s6 ∧ (lawSts w)[7]? = some s7 ∧ (lawSts w)[8]? = some s8 ∧
    (lawSts w)[9]? = some s9 ∧ (lawSts w)[10]? = some s10 ∧ (lawSts w)[11]? = some s11 ∧ (lawSts w)[12]? = some s12 := ⟨_, _, _, _, _, _, _, _, _, rfl, rfl, rfl, rfl, rfl, rfl, rfl, rfl, rfl, rfl⟩
section
variable {w : World} {A : Around} {s : Shared} {E : Value → Shared → Prop}
theorem law_true {Q : Flow → Shared → Prop} {st : Stmt} {env : Env} (hst : (lawSts w)[12]? = some st) (h : Q (.ret (.bool true)) s) : wpAny (model PG w) A (exec st env) Q E s := by
  have hst' : some (Stmt.Return (some _) _) = some st := hst
  injection hst' with e1
  subst e1
  refine wpAny_Return_some ?_
  exact Constant_bool h
set_option maxHeartbeats 8000000 in
/-- the law from the sketch on -/
theorem law_rest {Q : Flow → Shared → Prop} {scope : Scope} {s6 s7 s8 s9 s10 s11 s12 : Stmt} (hsc : (fdAt w 343).map (·.scope) = some scope)
    (e6 : (lawSts w)[6]? = some s6) (e7 : (lawSts w)[7]? = some s7) (e8 : (lawSts w)[8]? = some s8) (e9 : (lawSts w)[9]? = some s9) (e10 : (lawSts w)[10]? = some s10) (e11 : (lawSts w)[11]? = some s11) (e12 : (lawSts w)[12]? = some s12)
    {g : Heap} {L sl cl wl hf fa : Addr} {Fx news : List (Addr × Obj)} {svs : List Value} {ns : List Int} {W D P : Nat} {cols : Nat → Nat → Nat} {m : Str → Option Value} {tP : Tok} {v2 v3 v4 : Option Value}
    (X0 : ∀ x dx, Fix w g L ((x, instObj 321 dx) :: Fx) sl cl wl hf x dx svs ns W D P cols) (F : Fr g L s.heap m) (N : News g L s.heap news) (fxn : ∀ p ∈ Fx, p ∈ news) (fxa : ∀ p ∈ Fx, p.1 ≠ L + 2 ∧ p.1 ≠ L + 3 ∧ p.1 ≠ L + 4)
    (c2 : LC news (L + 2) v2) (c3 : LC news (L + 3) v3) (c4 : LC news (L + 4) v4) (c6 : ∃ t, LC news (L + 6) (some (.int ((D : Nat) : Int) t))) (c7 : ∃ t, LC news (L + 7) (some (.int ((W : Nat) : Int) t)))
    (hpl : m (Str.ofString "places") = some (.int ((P : Nat) : Int) tP)) (hrd : m (Str.ofString "reading") = some (.ref hf)) (hroom : A.depth < 500) (hhd : A.handled = none) (hun : A.units + 64 < cLine)
    (hE : PassesOwn (model PG w) A (envX (Str.ofString "law") scope L fa (.ref 342) (cellsFrom (L + 1) scope.names [])) E)
    (done : ∀ h' tk' m' news', Fr g L h' m' → News g L h' news' → (∀ p ∈ Fx, p ∈ news') → Q (.ret (.bool true)) { s with heap := h', toks := tk' }) :
    wpAny (model PG w) A (execs [s6, s7, s8, s9, s10, s11, s12] (envX (Str.ofString "law") scope L fa (.ref 342) (cellsFrom (L + 1) scope.names []))) Q E s := by
  have X00 := X0 0 0
  have B := X00.B
  have hW := X00.hW
  have hD := X00.hD
  have hP := X00.hP
  obtain ⟨tD, c6⟩ := c6
  obtain ⟨tW, c7⟩ := c7
  refine wpAny_execs_cons ?_
  refine law_heavy hsc e6 B F N c6 c7 hpl hrd hW hD hroom hhd ?_
  intro h4 tk4 x dx bl td o1 o2 o3 F4 N4 z1 z2 z3 z4 n1 n2 n3 n4 n5 n6 lo S4
  have old : ∀ {a b : Addr} {o : Obj}, (a, o) ∈ news → s.heap.get? b = none → b ≠ a := fun hm z => ne_none (N _ hm).1 z
  refine cut_state (s := s) (h := h4) ?_
  intro tk4'
  have up4 : ∀ {a : Addr} {o : Obj}, (a, o) ∈ news → (a, o) ∈ (x, instObj 321 dx) :: (dx, o1) :: (bl, o2) :: (td, o3) :: news := fun hm => .tail _ (.tail _ (.tail _ (.tail _ hm)))
  have kx4 : (x, instObj 321 dx) ∈ (x, instObj 321 dx) :: (dx, o1) :: (bl, o2) :: (td, o3) :: news := .head _
  have kd4 : (dx, o1) ∈ (x, instObj 321 dx) :: (dx, o1) :: (bl, o2) :: (td, o3) :: news := .tail _ (.head _)
  have kb4 : (bl, o2) ∈ (x, instObj 321 dx) :: (dx, o1) :: (bl, o2) :: (td, o3) :: news := .tail _ (.tail _ (.head _))
  have kt4 : (td, o3) ∈ (x, instObj 321 dx) :: (dx, o1) :: (bl, o2) :: (td, o3) :: news := .tail _ (.tail _ (.tail _ (.head _)))
  have X := X0 x dx
  have hxo := fun {a : Addr} {o : Obj} (hm : (a, o) ∈ news) => old hm z1
  have hdo := fun {a : Addr} {o : Obj} (hm : (a, o) ∈ news) => old hm z2
  have hbo := fun {a : Addr} {o : Obj} (hm : (a, o) ∈ news) => old hm z3
  have hto := fun {a : Addr} {o : Obj} (hm : (a, o) ∈ news) => old hm z4
  -- the objects that never change
  have fx4 : ∀ p ∈ (x, instObj 321 dx) :: Fx, p ∈ (x, instObj 321 dx) :: (dx, o1) :: (bl, o2) :: (td, o3) :: news := fun p hp => by
    rcases List.mem_cons.mp hp with rfl | hp
    · exact kx4
    · exact up4 (fxn p hp)
  obtain ⟨oc2, m2, d2⟩ := c2
  obtain ⟨oc3, m3, d3⟩ := c3
  obtain ⟨oc4, m4, d4⟩ := c4
  have fxa4 : ∀ p ∈ (x, instObj 321 dx) :: Fx, p.1 ≠ L + 2 ∧ p.1 ≠ L + 3 ∧ p.1 ≠ L + 4 ∧ p.1 ≠ dx ∧ p.1 ≠ bl ∧ p.1 ≠ td := fun p hp => by
    rcases List.mem_cons.mp hp with rfl | hp
    · exact ⟨hxo m2, hxo m3, hxo m4, n1, n2, n3⟩
    · obtain ⟨q1, q2, q3⟩ := fxa p hp
      exact ⟨q1, q2, q3, (hdo (fxn p hp)).symm, (hbo (fxn p hp)).symm, (hto (fxn p hp)).symm⟩
  have hd_2 := hdo m2
  have hd_3 := hdo m3
  have hd_4 := hdo m4
  have hb_2 := hbo m2
  have hb_3 := hbo m3
  have hb_4 := hbo m4
  have ht_2 := hto m2
  have ht_3 := hto m3
  have ht_4 := hto m4
  replace m2 := up4 m2
  replace m3 := up4 m3
  replace m4 := up4 m4
  generalize hq4 : (x, instObj 321 dx) :: (dx, o1) :: (bl, o2) :: (td, o3) :: news = news4 at *
  refine wpAny_execs_cons ?_
  refine law_asks (tP := tP) hsc e7 B F4 N4 (by exact hpl) (by rfl) S4 hroom hhd ?_
  intro h5 tk5 F5 N5
  refine cut_state (s := s) (h := h5) ?_
  intro tk5'
  refine wpAny_execs_cons ?_
  refine law_cells hsc (.inl e8) B F5 N5 (c6.sub fun o hm => up4 hm) (c7.sub fun o hm => up4 hm) ⟨oc3, m3, d3⟩ (by omega) (by omega) hhd ?_
  intro h6 tk6 cel ra robj F6 N6 C6 r2 r3 r5 r6
  have e1 : ∀ {a : Addr} {o : Obj}, (a, o) ∈ news4 → h5.get? a = some o := fun hm => (N5 _ hm).1
  have cne : ∀ {a : Addr} {o : Obj}, (a, o) ∈ news4 → cel ≠ a := fun hm => ne_none (e1 hm) r5
  have rne : ∀ r < D, ∀ {a : Addr} {o : Obj}, (a, o) ∈ news4 → ra r ≠ a := fun r hr _ _ hm => ne_none (e1 hm) (r6 r hr).1
  have keep6 : ∀ {a : Addr} {o : Obj}, (a, o) ∈ news4 → a ≠ L + 3 → (a, o) ∈ (cel, LCg.lst ((List.range D).map fun r => Value.ref (ra r))) :: (robj ++ rel [L + 3] h6 news4) := fun hm n1 => .tail _ (List.mem_append_right _ (rel_keep hm (by simpa using n1)))
  have fx6 : ∀ p ∈ (x, instObj 321 dx) :: Fx, p ∈ (cel, LCg.lst ((List.range D).map fun r => Value.ref (ra r))) :: (robj ++ rel [L + 3] h6 news4) := fun p hp => keep6 (fx4 p hp) (fxa4 p hp).2.1
  have SK6 : SK w ((cel, LCg.lst ((List.range D).map fun r => Value.ref (ra r))) :: (robj ++ rel [L + 3] h6 news4)) x dx bl td hf W D P (fun _ _ => 0) 0 [] 0 := S4.sub fun a ha o hm => keep6 hm (by
    simp only [List.mem_cons, List.mem_nil_iff, or_false] at ha
    rcases ha with rfl | rfl | rfl | rfl
    · exact (fxa4 _ (.head _)).2.1
    · exact hd_3
    · exact hb_3
    · exact ht_3)
  have m2' := keep6 m2 (by simp)
  have m4' := keep6 m4 (by simp)
  have kd6 := keep6 kd4 hd_3
  have kb6 := keep6 kb4 hb_3
  have kt6 := keep6 kt4 ht_3
  obtain ⟨ok3, mk3, dk3⟩ := C6
  have m3' : (L + 3, ok3) ∈ (cel, LCg.lst ((List.range D).map fun r => Value.ref (ra r))) :: (robj ++ rel [L + 3] h6 news4) := .tail _ (List.mem_append_right _ mk3)
  have ce6 : (cel, LCg.lst ((List.range D).map fun r => Value.ref (ra r))) ∈ (cel, LCg.lst ((List.range D).map fun r => Value.ref (ra r))) :: (robj ++ rel [L + 3] h6 news4) := .head _
  have rr6 : ∀ r < D, ∃ zs, (ra r, LCg.lst zs) ∈ (cel, LCg.lst ((List.range D).map fun r => Value.ref (ra r))) :: (robj ++ rel [L + 3] h6 news4) ∧ IntsAre zs ((List.range W).map fun _ => 0) := fun r hr => by
    obtain ⟨zs, hz, hz2⟩ := r2 r hr
    exact ⟨zs, .tail _ (List.mem_append_left _ hz), hz2⟩
  generalize hq6 : (cel, LCg.lst ((List.range D).map fun r => Value.ref (ra r))) :: (robj ++ rel [L + 3] h6 news4) = news6 at *
  refine cut_state (s := s) (h := h6) ?_
  intro tk6'
  refine wpAny_execs_cons ?_
  refine law_reset hsc (.inl e9) F6 N6 hhd ?_
  intro h7 tk7 nl vl t1 t2 F7 N7 hnl hvl hnv
  have hnl : h6.get? nl = none := hnl
  have hvl : h6.get? vl = none := hvl
  have e2 : ∀ {a : Addr} {o : Obj}, (a, o) ∈ news6 → nl ≠ a ∧ vl ≠ a := fun hm => ⟨ne_none (N6 _ hm).1 hnl, ne_none (N6 _ hm).1 hvl⟩
  have up7 : ∀ {a : Addr} {o : Obj}, (a, o) ∈ news6 → (a, o) ∈ (vl, LCg.lst []) :: (nl, LCg.lst []) :: news6 := fun hm => .tail _ (.tail _ hm)
  have nes : Nes L dx bl td cel nl vl ra D :=
    { at_ce := by simp, at_bo := by simp, at_dx := Ne.symm hd_2, at_bl := Ne.symm hb_2, at_td := Ne.symm ht_2, at_cel := Ne.symm (cne m2), at_nl := Ne.symm (e2 m2').1, at_vl := Ne.symm (e2 m2').2,
      ce_bo := by simp, ce_dx := Ne.symm hd_3, ce_bl := Ne.symm hb_3, ce_td := Ne.symm ht_3, ce_cel := Ne.symm (cne m3), ce_nl := Ne.symm (e2 m3').1, ce_vl := Ne.symm (e2 m3').2,
      bo_dx := Ne.symm hd_4, bo_bl := Ne.symm hb_4, bo_td := Ne.symm ht_4, bo_cel := Ne.symm (cne m4), bo_nl := Ne.symm (e2 m4').1, bo_vl := Ne.symm (e2 m4').2,
      dx_bl := n4, dx_td := n5, dx_cel := Ne.symm (cne kd4), dx_nl := Ne.symm (e2 kd6).1, dx_vl := Ne.symm (e2 kd6).2,
      bl_td := n6, bl_cel := Ne.symm (cne kb4), bl_nl := Ne.symm (e2 kb6).1, bl_vl := Ne.symm (e2 kb6).2,
      td_cel := Ne.symm (cne kt4), td_nl := Ne.symm (e2 kt6).1, td_vl := Ne.symm (e2 kt6).2,
      cel_nl := Ne.symm (e2 ce6).1, cel_vl := Ne.symm (e2 ce6).2, nl_vl := hnv,
      at_r := fun r hr => Ne.symm (rne r hr m2), ce_r := fun r hr => Ne.symm (rne r hr m3), bo_r := fun r hr => Ne.symm (rne r hr m4), dx_r := fun r hr => Ne.symm (rne r hr kd4), bl_r := fun r hr => Ne.symm (rne r hr kb4), td_r := fun r hr => Ne.symm (rne r hr kt4),
      cel_r := fun r hr => Ne.symm (r6 r hr).2, nl_r := fun r hr => by obtain ⟨zs, hz, _⟩ := rr6 r hr; exact (e2 hz).1, vl_r := fun r hr => by obtain ⟨zs, hz, _⟩ := rr6 r hr; exact (e2 hz).2, r_r := r3 }
  have Y : Mut w ((x, instObj 321 dx) :: Fx) ((vl, LCg.lst []) :: (nl, LCg.lst []) :: news6) L x dx bl td hf cel nl vl ra W D P (fun _ _ => 0) (fun _ _ => 0) 0 0 [] [] [] := by
    refine ⟨⟨v2, oc2, up7 m2', d2⟩, ⟨ok3, up7 m3', dk3⟩, ⟨v4, oc4, up7 m4', d4⟩, LL.of_lst (up7 ce6), fun r hr => ?_, ⟨[], LL.of_lst (.tail _ (.head _)), .nil⟩, ⟨[], LL.of_lst (.head _), .nil⟩, SK6.sub fun a _ o hm => up7 hm, lo, nd_of nes, fun p hp => up7 (fx6 p hp), fun p hp q => ?_⟩
    · obtain ⟨zs, hz, hz2⟩ := rr6 r hr
      exact ⟨zs, LL.of_lst (up7 hz), hz2⟩
    · obtain ⟨x1, x2, x3, x4, x5, x6⟩ := fxa4 p hp
      rcases List.mem_append.mp q with q | q
      · simp only [List.mem_cons, List.mem_nil_iff, or_false] at q
        rcases q with q | q | q | q | q | q | q | q | q
        · exact x1 q
        · exact x2 q
        · exact x3 q
        · exact x4 q
        · exact x5 q
        · exact x6 q
        · exact cne (fx4 p hp) q.symm
        · exact (e2 (fx6 p hp)).1 q.symm
        · exact (e2 (fx6 p hp)).2 q.symm
      · obtain ⟨r, hr, e⟩ := List.mem_map.mp q
        exact rne r (List.mem_range.mp hr) (fx4 p hp) e
  generalize hq7 : (vl, LCg.lst []) :: (nl, LCg.lst []) :: news6 = news7 at *
  refine cut_state (s := s) (h := h7) ?_
  intro tk7'
  refine wpAny_execs_cons ?_
  refine law_loop hsc e10 X Y ⟨by rfl, by rfl, by rfl, ⟨_, by rfl⟩, ⟨_, by rfl⟩, ⟨_, by exact hpl⟩⟩ F7 N7 hroom hhd hun hE ?_
  intro h8 tk8 m8 news8 td8 cel8 nl8 vl8 ra8 cell8 sums8 mark8 b8 F8 N8 Y8 Z8
  refine cut_state (s := s) (h := h8) ?_
  intro tk8'
  refine wpAny_execs_cons ?_
  refine law_last hsc e11 X Y8 Z8 F8 N8 hroom hhd hE ?_
  intro h9 tk9 m9 news9 F9 N9 fx9
  refine wpAny_execs_cons ?_
  refine law_true e12 ?_
  exact done h9 _ m9 news9 F9 N9 fun p hp => fx9 p (.tail _ hp)
end
end

-- M22
section
section
variable {w : World} {A : Around} {s : Shared} {E : Value → Shared → Prop}
set_option maxHeartbeats 8000000 in
/-- the law, whole -/
theorem law_body {Q : Flow → Shared → Prop} {scope : Scope} (hsc : (fdAt w 343).map (·.scope) = some scope)
    {g : Heap} {L sl fa : Addr} {news : List (Addr × Obj)} {svs : List Value} {ns : List Int} {m : Str → Option Value} {v2 v3 v4 v5 v6 v7 v8 : Option Value} (B : Bs w g) (F : Fr g L s.heap m) (N : News g L s.heap news) (C : CodeHd g 342 340) (ht : (340, tabObj #[]) ∈ news)
    (hL : (340 : Nat) < L) (c1 : LC news (L + 1) (some (.ref sl))) (c2 : LC news (L + 2) v2) (c3 : LC news (L + 3) v3) (c4 : LC news (L + 4) v4) (c5 : LC news (L + 5) v5) (c6 : LC news (L + 6) v6) (c7 : LC news (L + 7) v7) (c8 : LC news (L + 8) v8)
    (hsl : g.IsList sl svs.toArray) (hsi : IntsAre svs ns) (hsn : ns.length ≤ 63) (hroom : A.depth < 500) (hhd : A.handled = none) (hun : A.units + 64 < cLine)
    (hE : PassesOwn (model PG w) A (envX (Str.ofString "law") scope L fa (.ref 342) (cellsFrom (L + 1) scope.names [])) E)
    (done : ∀ h' tk' m', Fr g L h' m' → GrownAt 340 h' → Q (.ret (.bool true)) { s with heap := h', toks := tk' }) :
    wpAny (model PG w) A (execs (lawSts w) (envX (Str.ofString "law") scope L fa (.ref 342) (cellsFrom (L + 1) scope.names []))) Q E s := by
  obtain ⟨s4, s5, s6, s7, s8, s9, s10, s11, s12, hdr, e4, e5, e6, e7, e8, e9, e10, e11, e12⟩ := lawSts_4 w
  have n6 : (340 : Nat) ≠ L + 6 := Nat.ne_of_lt (Nat.lt_of_lt_of_le hL (Nat.le_add_right _ _))
  have n7 : (340 : Nat) ≠ L + 7 := Nat.ne_of_lt (Nat.lt_of_lt_of_le hL (Nat.le_add_right _ _))
  have n8 : (340 : Nat) ≠ L + 8 := Nat.ne_of_lt (Nat.lt_of_lt_of_le hL (Nat.le_add_right _ _))
  have n5 : (340 : Nat) ≠ L + 5 := Nat.ne_of_lt (Nat.lt_of_lt_of_le hL (Nat.le_add_right _ _))
  have nk : ∀ k : Nat, L + k ≠ 340 := fun k q => by
    have : L ≤ 340 := q ▸ Nat.le_add_right L k
    exact Nat.lt_irrefl _ (Nat.lt_of_lt_of_le hL this)
  refine law_start hsc hdr B F N c1 hsl hsi hsn c6 c7 c8 hroom hhd ?_
  intro h1 tk1 m1 news1 W D P tD tW tP wl wvs F1 N1 hW hD hP C6 C7 C8 hwl hws hpl k1
  have ht1 := k1 _ _ ht n6 n7 n8
  have C1 := c1.sub (news' := news1) fun o hm => k1 _ _ hm (by simp) (by simp) (by simp)
  have C2 := c2.sub (news' := news1) fun o hm => k1 _ _ hm (by simp) (by simp) (by simp)
  have C3 := c3.sub (news' := news1) fun o hm => k1 _ _ hm (by simp) (by simp) (by simp)
  have C4 := c4.sub (news' := news1) fun o hm => k1 _ _ hm (by simp) (by simp) (by simp)
  have C5 := c5.sub (news' := news1) fun o hm => k1 _ _ hm (by simp) (by simp) (by simp)
  refine wpAny_execs_cons ?_
  refine law_columns hsc e4 B F1 N1 C1 hsl hsi hsn C6 C7 C5 (by omega) (by omega) (by omega) hroom hhd ?_
  intro h2 tk2 cl ca robj F2 N2 D5 hrows
  -- the ledger behind the columns
  have keep2 : ∀ {a : Addr} {o : Obj}, (a, o) ∈ news1 → a ≠ L + 5 → (a, o) ∈ (cl, LCg.lst ((List.range 6).map fun r => Value.ref (ca r))) :: (robj ++ rel [L + 5] h2 news1) := fun hm n1 => .tail _ (List.mem_append_right _ (rel_keep hm (by simpa using n1)))
  have ht2 := keep2 ht1 n5
  have D1 := C1.sub fun o hm => keep2 hm (by simp)
  have D2 := C2.sub fun o hm => keep2 hm (by simp)
  have D3 := C3.sub fun o hm => keep2 hm (by simp)
  have D4 := C4.sub fun o hm => keep2 hm (by simp)
  have D6 := C6.sub fun o hm => keep2 hm (by simp)
  have D7 := C7.sub fun o hm => keep2 hm (by simp)
  have D8 := C8.sub fun o hm => keep2 hm (by simp)
  replace D5 := D5.sub (news' := (cl, LCg.lst ((List.range 6).map fun r => Value.ref (ca r))) :: (robj ++ rel [L + 5] h2 news1)) fun o hm => .tail _ (List.mem_append_right _ hm)
  have hwl2 : LL _ wl wvs := hwl.sub fun o hm => by
    obtain ⟨k, hm2⟩ := id hwl
    exact keep2 hm (ne_cell N1 C5 hm2 fun v q => by cases q)
  have hcl2 : LL ((cl, LCg.lst ((List.range 6).map fun r => Value.ref (ca r))) :: (robj ++ rel [L + 5] h2 news1)) cl ((List.range 6).map fun r => Value.ref (ca r)) := LL.of_lst (.head _)
  have hrows2 : ∀ k < 6, ∃ zs, LL ((cl, LCg.lst ((List.range 6).map fun r => Value.ref (ca r))) :: (robj ++ rel [L + 5] h2 news1)) (ca k) zs ∧ IntsAre zs ((List.range D).map fun r => ((colOf ns W k r : Nat) : Int)) := fun k hk => by
    obtain ⟨zs, h1, h2⟩ := hrows k hk
    exact ⟨zs, LL.of_lst (.tail _ (List.mem_append_left _ h1)), h2⟩
  generalize hq2 : (cl, LCg.lst ((List.range 6).map fun r => Value.ref (ca r))) :: (robj ++ rel [L + 5] h2 news1) = news2 at *
  refine cut_state (s := s) (h := h2) ?_
  intro tk2'
  refine wpAny_execs_cons ?_
  refine law_reading hsc e5 B F2 N2 C ht2 ?_
  intro h3 tk3 f c' oc vs t nm nm2 qual params body sc5 pos doc pm ctv ps' est F3 N3 hd hv
  have keep3 : ∀ {a : Addr} {o : Obj}, (a, o) ∈ news2 → a ≠ 340 → (a, o) ∈ (f, fnMade nm qual params body sc5 [(Str.ofString "words", L + 8), (Str.ofString "width", L + 7), (Str.ofString "depth", L + 6), (Str.ofString "columns", L + 5)] doc pm c' ctv) :: (c', oc) :: (340, tabObj ps') :: news2.filter fun p => p.1 != 340 :=
    fun hm n1 => .tail _ (.tail _ (.tail _ (List.mem_filter.mpr ⟨hm, by simpa using n1⟩)))
  have G1 := D1.sub fun o hm => keep3 hm (nk _)
  have G2 := D2.sub fun o hm => keep3 hm (nk _)
  have G3 := D3.sub fun o hm => keep3 hm (nk _)
  have G4 := D4.sub fun o hm => keep3 hm (nk _)
  have G5 := D5.sub fun o hm => keep3 hm (nk _)
  have G6 := D6.sub fun o hm => keep3 hm (nk _)
  have G7 := D7.sub fun o hm => keep3 hm (nk _)
  have G8 := D8.sub fun o hm => keep3 hm (nk _)
  have ll3 : ∀ {a : Addr} {us : List Value}, LL news2 a us → LL ((f, fnMade nm qual params body sc5 [(Str.ofString "words", L + 8), (Str.ofString "width", L + 7), (Str.ofString "depth", L + 6), (Str.ofString "columns", L + 5)] doc pm c' ctv) :: (c', oc) :: (340, tabObj ps') :: news2.filter fun p => p.1 != 340) a us := fun X => by
    obtain ⟨k, hm⟩ := X
    exact ⟨k, keep3 hm (ne_tab N2 ht2 hm fun q => by cases q)⟩
  have hwl3 := ll3 hwl2
  have hcl3 := ll3 hcl2
  have hrows3 : ∀ k < 6, ∃ zs, LL ((f, fnMade nm qual params body sc5 [(Str.ofString "words", L + 8), (Str.ofString "width", L + 7), (Str.ofString "depth", L + 6), (Str.ofString "columns", L + 5)] doc pm c' ctv) :: (c', oc) :: (340, tabObj ps') :: news2.filter fun p => p.1 != 340) (ca k) zs ∧ IntsAre zs ((List.range D).map fun r => ((colOf ns W k r : Nat) : Int)) := fun k hk => by
    obtain ⟨zs, h1, h2⟩ := hrows2 k hk
    exact ⟨zs, ll3 h1, h2⟩
  have kf3 : (f, fnMade nm qual params body sc5 [(Str.ofString "words", L + 8), (Str.ofString "width", L + 7), (Str.ofString "depth", L + 6), (Str.ofString "columns", L + 5)] doc pm c' ctv) ∈ (f, fnMade nm qual params body sc5 [(Str.ofString "words", L + 8), (Str.ofString "width", L + 7), (Str.ofString "depth", L + 6), (Str.ofString "columns", L + 5)] doc pm c' ctv) :: (c', oc) :: (340, tabObj ps') :: news2.filter fun p => p.1 != 340 := .head _
  have kc3 : (c', oc) ∈ (f, fnMade nm qual params body sc5 [(Str.ofString "words", L + 8), (Str.ofString "width", L + 7), (Str.ofString "depth", L + 6), (Str.ofString "columns", L + 5)] doc pm c' ctv) :: (c', oc) :: (340, tabObj ps') :: news2.filter fun p => p.1 != 340 := .tail _ (.head _)
  have kp3 : (340, tabObj ps') ∈ (f, fnMade nm qual params body sc5 [(Str.ofString "words", L + 8), (Str.ofString "width", L + 7), (Str.ofString "depth", L + 6), (Str.ofString "columns", L + 5)] doc pm c' ctv) :: (c', oc) :: (340, tabObj ps') :: news2.filter fun p => p.1 != 340 := .tail _ (.tail _ (.head _))
  generalize hq3 : (f, fnMade nm qual params body sc5 [(Str.ofString "words", L + 8), (Str.ofString "width", L + 7), (Str.ofString "depth", L + 6), (Str.ofString "columns", L + 5)] doc pm c' ctv) :: (c', oc) :: (340, tabObj ps') :: (news2.filter fun p => p.1 != 340) = news3 at *
  refine cut_state (s := s) (h := h3) ?_
  intro tk3'
  -- what never changes from here on
  have fxm : ∀ {a : Addr} {o : Obj}, (a, o) ∈ news3 → a ≠ L + 2 → a ≠ L + 3 → a ≠ L + 4 → (a, o) ∈ news3.filter fun p => decide (p.1 ≠ L + 2 ∧ p.1 ≠ L + 3 ∧ p.1 ≠ L + 4) := fun hm q1 q2 q3 => List.mem_filter.mpr ⟨hm, by simpa using ⟨q1, q2, q3⟩⟩
  have nocell : ∀ {a : Addr} {o : Obj}, (a, o) ∈ news3 → (∀ v, o.data ≠ .cell v) → (a, o) ∈ news3.filter fun p => decide (p.1 ≠ L + 2 ∧ p.1 ≠ L + 3 ∧ p.1 ≠ L + 4) := fun hm hq => fxm hm (ne_cell N3 G2 hm hq) (ne_cell N3 G3 hm hq) (ne_cell N3 G4 hm hq)
  have llf : ∀ {a : Addr} {us : List Value}, LL news3 a us → LL (news3.filter fun p => decide (p.1 ≠ L + 2 ∧ p.1 ≠ L + 3 ∧ p.1 ≠ L + 4)) a us := fun X => by
    obtain ⟨k, hm⟩ := X
    exact ⟨k, nocell hm fun v q => by cases q⟩
  have fxn : ∀ p ∈ news3.filter (fun p => decide (p.1 ≠ L + 2 ∧ p.1 ≠ L + 3 ∧ p.1 ≠ L + 4)), p ∈ news3 := fun p hp => (List.mem_filter.mp hp).1
  have fxa : ∀ p ∈ news3.filter (fun p => decide (p.1 ≠ L + 2 ∧ p.1 ≠ L + 3 ∧ p.1 ≠ L + 4)), p.1 ≠ L + 2 ∧ p.1 ≠ L + 3 ∧ p.1 ≠ L + 4 := fun p hp => by simpa using (List.mem_filter.mp hp).2
  have X0 := fun x dx => fix_of est B F3 (fun p hp => N3 p (fxn p hp)) hsl hsi hsn (G1.sub fun o hm => fxm hm (by simp) (by simp) (by simp)) (G5.sub fun o hm => fxm hm (by simp) (by simp) (by simp)) (G6.sub fun o hm => fxm hm (by simp) (by simp) (by simp)) (G7.sub fun o hm => fxm hm (by simp) (by simp) (by simp)) (G8.sub fun o hm => fxm hm (by simp) (by simp) (by simp))
    (llf hwl3) hws (llf hcl3) (fun k hk => by obtain ⟨zs, h1, h2⟩ := hrows3 k hk; exact ⟨zs, llf h1, h2⟩) hW hD hP (nocell kf3 fun v q => by cases q) (nocell kc3 fun v q => by rw [hd] at q; cases q) hd hv x dx
  refine law_rest hsc e6 e7 e8 e9 e10 e11 e12 X0 F3 N3 fxn fxa G2 G3 G4 ⟨_, G6⟩ ⟨_, G7⟩ (by exact hpl) (by rfl) hroom hhd hun hE ?_
  intro h9 tk9 m9 news9 F9 N9 fx9
  exact done h9 _ m9 F9 ⟨ps', (N9 _ (fx9 _ (nocell kp3 fun v q => by cases q))).1⟩
end
theorem law_entry {w : World} {A : Around} {s : Shared} {E : Value → Shared → Prop} {Q : Flow → Shared → Prop} {scope : Scope} (hsc : (fdAt w 343).map (·.scope) = some scope)
    {g : Heap} {L sl fa : Addr} {svs : List Value} {ns : List Int} {m : Str → Option Value} {o1 o2 o3 o4 o5 o6 o7 o8 : Obj} {v2 v3 v4 v5 v6 v7 v8 : Option Value} (B : Bs w g) (F : Fr g L s.heap m)
    (N : News g L s.heap [(L + 1 + 1 + 1 + 1 + 1 + 1 + 1 + 1, o8), (L + 1 + 1 + 1 + 1 + 1 + 1 + 1, o7), (L + 1 + 1 + 1 + 1 + 1 + 1, o6), (L + 1 + 1 + 1 + 1 + 1, o5), (L + 1 + 1 + 1 + 1, o4), (L + 1 + 1 + 1, o3), (L + 1 + 1, o2), (L + 1, o1), (340, tabObj #[])])
    (C : CodeHd g 342 340) (hL : (340 : Nat) < L) (d1 : o1.data = .cell (some (.ref sl))) (d2 : o2.data = .cell v2) (d3 : o3.data = .cell v3) (d4 : o4.data = .cell v4) (d5 : o5.data = .cell v5) (d6 : o6.data = .cell v6) (d7 : o7.data = .cell v7) (d8 : o8.data = .cell v8)
    (hsl : g.IsList sl svs.toArray) (hsi : IntsAre svs ns) (hsn : ns.length ≤ 63) (hroom : A.depth < 500) (hhd : A.handled = none) (hun : A.units + 64 < cLine)
    (done : ∀ h' tk' m', Fr g L h' m' → GrownAt 340 h' → Q (.ret (.bool true)) { s with heap := h', toks := tk' }) :
    wpAny (model PG w) A (execs (lawSts w) (envX (Str.ofString "law") scope L fa (.ref 342) (cellsFrom (L + 1) scope.names []))) Q E s := by
  have e8 : ∀ l : List (Addr × Obj), (L + 8, o8) ∈ (L + 1 + 1 + 1 + 1 + 1 + 1 + 1 + 1, o8) :: l := fun l => .head _
  have e7 : ∀ l : List (Addr × Obj), (L + 7, o7) ∈ (L + 1 + 1 + 1 + 1 + 1 + 1 + 1, o7) :: l := fun l => .head _
  have e6 : ∀ l : List (Addr × Obj), (L + 6, o6) ∈ (L + 1 + 1 + 1 + 1 + 1 + 1, o6) :: l := fun l => .head _
  have e5 : ∀ l : List (Addr × Obj), (L + 5, o5) ∈ (L + 1 + 1 + 1 + 1 + 1, o5) :: l := fun l => .head _
  have e4 : ∀ l : List (Addr × Obj), (L + 4, o4) ∈ (L + 1 + 1 + 1 + 1, o4) :: l := fun l => .head _
  have e3 : ∀ l : List (Addr × Obj), (L + 3, o3) ∈ (L + 1 + 1 + 1, o3) :: l := fun l => .head _
  have e2 : ∀ l : List (Addr × Obj), (L + 2, o2) ∈ (L + 1 + 1, o2) :: l := fun l => .head _
  refine wpAny_mono (law_body (Q := Q) (E := fun _ _ => False) hsc B F N C (.tail _ (.tail _ (.tail _ (.tail _ (.tail _ (.tail _ (.tail _ (.tail _ (.head _))))))))) hL
    ⟨o1, .tail _ (.tail _ (.tail _ (.tail _ (.tail _ (.tail _ (.tail _ (.head _))))))), d1⟩ ⟨o2, .tail _ (.tail _ (.tail _ (.tail _ (.tail _ (.tail _ (e2 _)))))), d2⟩ ⟨o3, .tail _ (.tail _ (.tail _ (.tail _ (.tail _ (e3 _))))), d3⟩ ⟨o4, .tail _ (.tail _ (.tail _ (.tail _ (e4 _)))), d4⟩ ⟨o5, .tail _ (.tail _ (.tail _ (e5 _))), d5⟩ ⟨o6, .tail _ (.tail _ (e6 _)), d6⟩ ⟨o7, .tail _ (e7 _), d7⟩ ⟨o8, e8 _, d8⟩
    hsl hsi hsn hroom hhd hun .never done) (fun _ _ q => q) fun _ _ q => q.elim
end

end Mine
end

section
open PySem PySem.W PyProof.Rows PySem.Calls PyProof.V
set_option Elab.async false
set_option maxRecDepth 100000
set_option linter.unusedVariables false
namespace Mine
set_option maxHeartbeats 8000000 in
theorem final : PySem.Challenge.rw_db5007_01.Holds := hd (by
  k_go0
  rename News _ _ _ _ => N
  rename Fr _ _ _ _ => F
  rename Top topProg _ _ _ _ _ => T
  rename Frag.In _ (ghostOf _ _) => X
  rename 340 < _ => hL
  rename IntsAre _ _ => hI
  rename ¬ _ < _ => hlen
  rename _ = #[] => hgens
  rename Heap.IsList (ghostOf _ _) _ _ => hsl
  rename CodeHd (ghostOf _ _) _ _ => C
  have hlen' : _ ≤ 63 := Int.ofNat_le.mp (Int.not_lt.mp hlen)
  refine law_entry (w := _) (scope := _) (by rfl) ⟨X, _, _, _, _, _, T⟩ F N C hL (by assumption) (by assumption) (by assumption) (by assumption) (by assumption) (by assumption) (by assumption) (by assumption) hsl hI hlen' (Nat.le_of_ble_eq_true (by rfl)) (by rfl) (Nat.le_of_ble_eq_true (by rfl)) (fun h' tk' m' F' G' => ?_)
  exact ⟨goodW_bool F' hgens (raisesW_false (by wrow_none_raised)) (by wrow_post), G', trivial⟩)
end Mine
end

theorem PySem.Challenge.cw_db5007_01_holds : PySem.Challenge.rw_db5007_01.Holds :=
  Mine.final
