import PyProof.Rows.All
import Wide.All
import OpenK.AllK
import Wide.FinOn
import Lean
import PySem.Challenge.RW_mj0090_01
open PySem PySem.W PyProof.Rows
set_option Elab.async false
set_option compiler.extract_closed false
namespace Mine
set_option maxRecDepth 100000 in
set_option maxHeartbeats 8000000 in
open_top hd for PySem.Challenge.rw_mj0090_01
set_option maxRecDepth 100000
set_option maxHeartbeats 8000000
variable {w : World} {mean : ExcName → Option Value} {mg mb : Str → Option Value}
abbrev prg : Program := PySem.Challenge.rw_mj0090_01.row.prog
/-- what a call of the def at f says: the frame and the ledger stand, some new objects may stand ahead of the ledger -/
def Tell (w : World) (mean : ExcName → Option Value) (mg mb : Str → Option Value) (f : Addr) (d : Nat) (news : List (Addr × Obj)) (vs : List Value) (Out : Value → List (Addr × Obj) → Prop) : Prop :=
  ∀ (dp un : Nat) (gd : Option (List Code)) (cn : Str) (cs : Scope) (a : Addr) (ccd : Value) (cl : List (Str × Addr)) (outer : List Env) (A₀ : Around) (base h₀ : Heap) (L : Addr) (m : Str → Option Value) (s : Shared) (Q E : Value → Shared → Prop),
    Below A₀ base outer h₀ → Fr h₀ L s.heap m → (hd.heap_39 w.params).In h₀ → News h₀ L s.heap news → Top hd.view_39 (looseW hd.view_39 []) mean mg mb h₀ → cs.kind = .function →
    dp + d < recursionLimit → un + 8 * d < cLine →
    (∀ (r : Value) (new : List (Addr × Obj)) (h' : Heap) (tk' : Nat), Fr h₀ L h' m → News h₀ L h' (new ++ news) → (∀ q ∈ new, ∀ p ∈ news, p.1 < q.1) → Out r new → Q r { s with heap := h', toks := tk' }) →
      wpAny (model PySem.Challenge.rw_mj0090_01.row.prog w) (ktrTop dp un gd cn cs L a ccd cl outer) (call (.ref f) vs) Q E s
theorem Tell.use {w : World} {mean : ExcName → Option Value} {mg mb : Str → Option Value} {f : Addr} {d : Nat} {news : List (Addr × Obj)} {vs : List Value} {Out : Value → List (Addr × Obj) → Prop}
    {dp un : Nat} {gd : Option (List Code)} {cn : Str} {cs : Scope} {a : Addr} {ccd : Value} {cl : List (Str × Addr)} {outer : List Env} {A₀ : Around} {base h₀ : Heap} {L : Addr} {m : Str → Option Value} {s : Shared} {Q E : Value → Shared → Prop}
    (B : Below A₀ base outer h₀) (F : Fr h₀ L s.heap m) (X : (hd.heap_39 w.params).In h₀) (N : News h₀ L s.heap news) (T : Top hd.view_39 (looseW hd.view_39 []) mean mg mb h₀) (C : Tell w mean mg mb f d news vs Out) (hk : cs.kind = .function)
    (hd : dp + d < recursionLimit) (hu : un + 8 * d < cLine)
    (ret : ∀ (r : Value) (new : List (Addr × Obj)) (h' : Heap) (tk' : Nat), Fr h₀ L h' m → News h₀ L h' (new ++ news) → (∀ q ∈ new, ∀ p ∈ news, p.1 < q.1) → Out r new → Q r { s with heap := h', toks := tk' }) :
    wpAny (model PySem.Challenge.rw_mj0090_01.row.prog w) (ktrTop dp un gd cn cs L a ccd cl outer) (call (.ref f) vs) Q E s :=
  C _ _ _ _ _ _ _ _ _ _ _ _ _ _ _ _ _ B F X N T hk hd hu ret
/-- a value handed back, nothing made -/
def OutV (P : Value → Prop) : Value → List (Addr × Obj) → Prop := fun r new => new = [] ∧ P r
set_option hygiene false in
local macro_rules | `(tactic| walk_at "mine start") => `(tactic| (unfold Tell; k_fill; intro dp un gd cn cs a ccd cl outer A₀ base h₀ L m s Q E B F X N T hk hd hu hret; refine wpAny_call ?_; k_dflt cell_enter))
set_option hygiene false in
local macro_rules | `(tactic| walk_at "mine back") => `(tactic| ((case k1 => k_asm); (case k2 => k_asm); (case k3 => k_asm); (case k4 => k_asm); (case k5 => k_asm); (case k6 => first | exact rfl | assumption); (case kd => ktr_room); (case ku => ktr_units); intro r9 new9 h9 tk9 F9 N9 lt9 hO9))
set_option hygiene false in
local macro_rules | `(tactic| walk_at "mine pure") => `(tactic| (walk_at "mine back"; obtain ⟨rfl, hO9⟩ := hO9; clear lt9; simp only [List.nil_append] at N9))
set_option hygiene false in
local macro_rules | `(tactic| walk_at "mine end") => `(tactic| exact hret _ [] _ _ (by assumption) (by assumption) (fun _ h => nomatch h) ⟨rfl, by first | rfl | exact ⟨_, rfl⟩⟩)

section
theorem calm_P05_rows : True := by
  w_top off
  k_with_none
  trivial
def rowA (pre : List Int) : List Int := 94 :: pre.filterMap fun n => if n.fmod 3 = 1 then none else some ((n.fdiv 3).fmod 384)
def rowB (pre : List Int) : List Int := 127 :: pre.filterMap fun n => if n.fmod 3 = 0 then none else some ((n.fdiv 3).fmod 384)
theorem rowA_len (pre : List Int) : (rowA pre).length ≤ pre.length + 1 := by
  have := List.length_filterMap_le (fun n : Int => if n.fmod 3 = 1 then none else some ((n.fdiv 3).fmod 384)) pre
  simpa [rowA] using this
theorem rowB_len (pre : List Int) : (rowB pre).length ≤ pre.length + 1 := by
  have := List.length_filterMap_le (fun n : Int => if n.fmod 3 = 0 then none else some ((n.fdiv 3).fmod 384)) pre
  simpa [rowB] using this
def RowsOk (pre a b : List Int) : Prop := a = rowA pre ∧ b = rowB pre
theorem rowsOk_all {pre a b : List Int} (h : RowsOk pre a b) : RowsOk pre a b ∧ a.length ≤ pre.length + 1 ∧ b.length ≤ pre.length + 1 := by
  refine ⟨h, ?_, ?_⟩
  · rw [h.1]; exact rowA_len pre
  · rw [h.2]; exact rowB_len pre
theorem rowsOk_0 : RowsOk [] [94] [127] := ⟨rfl, rfl⟩
theorem rowsOk_a {pre a b : List Int} {n : Int} (h : RowsOk pre a b) (h1 : n.fmod 3 ≠ 1) (h0 : n.fmod 3 = 0) : RowsOk (pre ++ [n]) (a ++ [(n.fdiv 3).fmod 384]) b := by
  obtain ⟨rfl, rfl⟩ := h
  exact ⟨by simp [rowA, List.filterMap_append, h1], by simp [rowB, List.filterMap_append, h0]⟩
theorem rowsOk_b {pre a b : List Int} {n : Int} (h : RowsOk pre a b) (h1 : n.fmod 3 = 1) (h0 : n.fmod 3 ≠ 0) : RowsOk (pre ++ [n]) a (b ++ [(n.fdiv 3).fmod 384]) := by
  obtain ⟨rfl, rfl⟩ := h
  exact ⟨by simp [rowA, List.filterMap_append, h1], by simp [rowB, List.filterMap_append, h0]⟩
theorem rowsOk_c {pre a b : List Int} {n : Int} (h : RowsOk pre a b) (h1 : n.fmod 3 ≠ 1) (h0 : n.fmod 3 ≠ 0) : RowsOk (pre ++ [n]) (a ++ [(n.fdiv 3).fmod 384]) (b ++ [(n.fdiv 3).fmod 384]) := by
  obtain ⟨rfl, rfl⟩ := h
  exact ⟨by simp [rowA, List.filterMap_append, h1], by simp [rowB, List.filterMap_append, h0]⟩
theorem codesIn {n : Int} : 0 ≤ (n.fdiv 3).fmod 384 ∧ (n.fdiv 3).fmod 384 < 384 := by
  rw [Int.fmod_eq_emod_of_nonneg _ (by decide)]; omega
theorem rowA_in {pre : List Int} : ∀ k ∈ rowA pre, 0 ≤ k ∧ k < 384 := by
  intro k hk
  rcases List.mem_cons.mp hk with rfl | hk
  · decide
  · obtain ⟨n, _, hn⟩ := List.mem_filterMap.mp hk
    split at hn
    · cases hn
    · cases hn; exact codesIn
theorem rowB_in {pre : List Int} : ∀ k ∈ rowB pre, 0 ≤ k ∧ k < 384 := by
  intro k hk
  rcases List.mem_cons.mp hk with rfl | hk
  · decide
  · obtain ⟨n, _, hn⟩ := List.mem_filterMap.mp hk
    split at hn
    · cases hn
    · cases hn; exact codesIn
/-- as Tell, the first argument a list of ints that stands below -/
def TellB (w : World) (mean : ExcName → Option Value) (mg mb : Str → Option Value) (f : Addr) (d : Nat) (news : List (Addr × Obj)) (l : Addr) (vs : List Value) (ns : List Int) (args : List Value) (Out : Value → List (Addr × Obj) → Prop) : Prop :=
  ∀ (dp un : Nat) (gd : Option (List Code)) (cn : Str) (cs : Scope) (a : Addr) (ccd : Value) (cl : List (Str × Addr)) (outer : List Env) (A₀ : Around) (base h₀ : Heap) (L : Addr) (m : Str → Option Value) (s : Shared) (Q E : Value → Shared → Prop),
    Below A₀ base outer h₀ → Fr h₀ L s.heap m → (hd.heap_39 w.params).In h₀ → News h₀ L s.heap news → Top hd.view_39 (looseW hd.view_39 []) mean mg mb h₀ → cs.kind = .function →
    base.IsList l vs.toArray → IntsAre vs ns → ns.length ≤ 2 ^ 20 →
    dp + d < recursionLimit → un + 8 * d < cLine →
    (∀ (r : Value) (new : List (Addr × Obj)) (h' : Heap) (tk' : Nat), Fr h₀ L h' m → News h₀ L h' (new ++ news) → (∀ q ∈ new, ∀ p ∈ news, p.1 < q.1) → Out r new → Q r { s with heap := h', toks := tk' }) →
      wpAny (model PySem.Challenge.rw_mj0090_01.row.prog w) (ktrTop dp un gd cn cs L a ccd cl outer) (call (.ref f) (.ref l :: args)) Q E s
abbrev tupOf (vs : List Value) : Obj := { cls := .type "tuple", data := .seq vs.toArray }
def RowsOut (ns : List Int) (r : Value) (new : List (Addr × Obj)) : Prop :=
  ∃ (A B T : Addr) (va vb : List Value) (na nb : Nat), A < B ∧ B < T ∧ r = .ref T ∧ new = [(T, tupOf [.ref A, .ref B]), (B, W.listOf vb.toArray nb), (A, W.listOf va.toArray na)] ∧ IntsAre va (rowA (ns.take 12)) ∧ IntsAre vb (rowB (ns.take 12))
theorem rows_end {ns : List Int} {news : List (Addr × Obj)} {h₀ h' : Heap} {L A B S T : Addr} {m : Str → Option Value} {s : Shared} {Q : Value → Shared → Prop} {va vb ws : List Value} {fa fb : List Int} {na nb k : Nat}
    (hret : ∀ (r : Value) (new : List (Addr × Obj)) (h' : Heap) (tk' : Nat), Fr h₀ L h' m → News h₀ L h' (new ++ news) → (∀ q ∈ new, ∀ p ∈ news, p.1 < q.1) → RowsOut ns r new → Q r { s with heap := h', toks := tk' })
    (F : Fr h₀ L h' m) (N : News h₀ L h' ((T, tupOf [.ref A, .ref B]) :: (S, W.listOf ws.toArray 0) :: (B, W.listOf vb.toArray nb) :: (A, W.listOf va.toArray na) :: news))
    (l1 : ∀ p ∈ news, p.1 < A) (l2 : A < B ∧ AllLt B news) (l3 : S < T ∧ B < T ∧ A < T ∧ AllLt T news) (ia : IntsAre va fa) (ib : IntsAre vb fb) (R : RowsOk (ns.take 12) fa fb) : Q (.ref T) { s with heap := h', toks := k } := by
  refine hret _ [(T, tupOf [.ref A, .ref B]), (B, W.listOf vb.toArray nb), (A, W.listOf va.toArray na)] _ _ F (fun p hp => N p ?_) (fun q hq p hp => ?_) ⟨A, B, T, va, vb, na, nb, l2.1, l3.2.1, rfl, rfl, R.1 ▸ ia, R.2 ▸ ib⟩
  · simp only [List.cons_append, List.nil_append, List.mem_cons] at hp ⊢
    rcases hp with h | h | h | h
    · exact .inl h
    · exact .inr (.inr (.inl h))
    · exact .inr (.inr (.inr (.inl h)))
    · exact .inr (.inr (.inr (.inr h)))
  · have h1 := l1 p hp
    simp only [List.mem_cons, List.not_mem_nil, or_false] at hq
    rcases hq with rfl | rfl | rfl
    · exact Nat.lt_trans h1 l3.2.2.1
    · exact Nat.lt_trans h1 l2.1
    · exact h1
set_option maxHeartbeats 2000000 in
theorem rows_ints (news : List (Addr × Obj)) (l : Addr) (vs : List Value) (ns : List Int) : TellB w mean mg mb 70 1 news l vs ns [] (RowsOut ns) := by
  (k_with "pyIter ref" => k_state (fun pre first second => RowsOk pre first second ∧ first.length ≤ pre.length + 1 ∧ second.length ≤ pre.length + 1) "first" "second")
  (k_with "state" => first | exact rowsOk_all rowsOk_0 | exact rowsOk_all (rowsOk_a (by assumption) (by assumption) (by assumption)) | exact rowsOk_all (rowsOk_b (by assumption) (by assumption) (by assumption)) | exact rowsOk_all (rowsOk_c (by assumption) (by assumption) (by assumption)))
  unfold TellB
  k_fill
  intro dp un gd cn cs a ccd cl outer A₀ base h₀ L m s Q E B F X N T hk hl hi hfit hd hu hret
  refine wpAny_call ?_
  k_dflt cell_enter
  k_steps
  exact rows_end hret (by assumption) (by assumption) (by assumption) (by assumption) (by assumption) (by assumption) (by assumption) (by assumption)

end
section
/-- a new IndexError in the heap, with its context -/
structure NX (h h' : Heap) (e : Addr) (ctx : Value) : Prop where
  keeps : ∀ b o, h.get? b = some o → h'.get? b = some o
  new : h.get? e = none
  there : ∃ ob vs, h'.get? e = some ob ∧ ob.cls = .type "IndexError" ∧ ob.data = .fields vs ∧ vs[1]? = some .none ∧ vs[2]? = some ctx
theorem NX.of {h h' : Heap} {e : Addr} (x : Heap.NewExc h h' e "IndexError") : NX h h' e .none :=
  ⟨x.keeps, x.new, by obtain ⟨ob, t, he, hc, hd⟩ := x.there; exact ⟨ob, _, he, hc, hd, rfl, rfl⟩⟩
/-- an IndexError e with its traceback entry T; fl: where it flies -/
structure Exc (e T : Addr) (oe oT : Obj) (fl ctx : Value) : Prop where
  cls : oe.cls = .type "IndexError"
  flds : ∃ vs, oe.data = .fields vs ∧ vs[1]? = some (.ref T) ∧ vs[2]? = some ctx
  tb : ∃ ts, oT.data = .fields ts ∧ ts[3]? = some fl
section
variable {prog : Program} {A : Around} {E : Value → Shared → Prop} {s : Shared} {h₀ h : Heap} {L L' f e T : Addr} {m m₀ : Str → Option Value} {name : Str} {scope : Scope} {cd : Value} {oL oe oT : Obj} {fl ctx : Value} {env : Env} {new : List (Addr × Obj)}
theorem caller_up {sl : Array (Option Value)} (C : TI.Caller h₀ L m₀ oL) : TI.Caller h₀ L m₀ { oL with slots := sl } :=
  ⟨fun h sl' e => C.ns h sl' e, C.dict, C.above⟩
theorem note_new {Q : Unit → Shared → Prop} (hfr : A.frames = some [envOf name scope L' f cd, env]) (hk : scope.kind = .function) (hef : env.frame = some L) (hek : env.scope.kind ≠ .module)
    (F : Fr h₀ L' h m) (N : News h₀ L' h (new ++ [(L, oL)])) (hne : ∀ p ∈ new, p.1 ≠ L) (C : TI.Caller h₀ L m₀ oL) (x : NX h s.heap e ctx)
    (k : ∀ h' T oT oe oL', TI.Caller h₀ L m₀ oL' → Fr h₀ L' h' m → News h₀ L' h' ((T, oT) :: (e, oe) :: (new ++ [(L, oL')])) → (∀ p ∈ (e, oe) :: (new ++ [(L, oL')]), p.1 ≠ T) → (∀ p ∈ new, p.1 ≠ e) → e ≠ L → Exc e T oe oT (rawInt L') ctx → Q () { s with heap := h' }) :
    wpAny (model prog w) A (noteFrame (.ref e) (envOf name scope L' f cd)) Q E s := by
  obtain ⟨ob, vs, he, hcls, hd, h1, h2⟩ := x.there
  have hsz : 1 < vs.size := (Array.getElem?_eq_some_iff.mp h1).1
  obtain ⟨o', es', ep', hL', hd', hk', hf'⟩ := F.ns
  obtain ⟨esL, epL, hdL⟩ := C.dict
  have hLh : h.get? L = some oL := (N _ (List.mem_append_right _ List.mem_cons_self)).1
  have hL0 : h₀.get? L = none := (N _ (List.mem_append_right _ List.mem_cons_self)).2.2
  have hLL : L ≠ L' := (N _ (List.mem_append_right _ List.mem_cons_self)).2.1
  have hL'0 : h₀.get? L' = none := Heap.get?_none_of_le F.above
  have eL' : e ≠ L' := fun q => by have := x.new; rw [q, hL'] at this; cases this
  have eL : e ≠ L := fun q => by have := x.new; rw [q, hLh] at this; cases this
  have hff : s.heap.FunFrames h₀ [envOf name scope L' f cd, env] :=
    ⟨by show scope.kind ≠ .module; rw [hk]; decide, ⟨L', o', rfl, hL'0, x.keeps _ _ hL', fun vs q => by rw [hd'] at q; cases q⟩,
     hek, ⟨L, oL, hef, hL0, x.keeps _ _ hLh, fun vs q => by rw [hdL] at q; cases q⟩, trivial⟩
  have hS : ([envOf name scope L' f cd, env].filterMap (·.frame)) = [L', L] := by
    rw [List.filterMap_cons, show (envOf name scope L' f cd).frame = some L' from rfl, List.filterMap_cons, hef]; rfl
  unfold noteFrame
  simp only [show (envOf name scope L' f cd).frame = some L' from rfl]
  refine wpAny_bind (wpAny_field he hd h1 ?_)
  rw [if_neg (by decide)]
  refine wpAny_bind (wpAny_frameOf_fun hfr hff rfl fun h₁ hs₁ => ?_)
  rw [hS] at hs₁
  refine wpAny_bind (wpAny_entryPlaceOf fun pl hpl => ?_)
  unfold EntryCells.newEntry newFields
  refine wpAny_bind (wpAny_newObj_type ?_ (hpl.sizeOk5 _ _ _ _ _))
  have out : ∀ b, b ≠ L' → b ≠ L → h₁.get? b = s.heap.get? b := fun b b1 b2 => hs₁.2.1 b fun hm => by
    rcases List.mem_cons.mp hm with q | hm
    · exact b1 q
    · rw [List.mem_singleton] at hm; exact b2 hm
  have he₁ : h₁.get? e = some ob := (out e eL' eL).trans he
  have he₂ := Heap.get?_push_of_some (h := h₁) { cls := .type "traceback", dict := none, data := .fields ([.none, .ref L', .none, rawInt L', .none] ++ (if pl.isEmpty then List.replicate 6 Value.none else pl)).toArray } he₁
  have hTe : h₁.objs.size ≠ e := Nat.ne_of_gt (Heap.lt_size he₁)
  have hd₃ := Obj.data_mapFields hd (·.setIfInBounds 1 (Value.ref h₁.objs.size))
  obtain ⟨sl, hsl⟩ := hs₁.2.2 L oL (x.keeps _ _ hLh)
  obtain ⟨sl', hsl'⟩ := hs₁.2.2 L' o' (x.keeps _ _ hL')
  have keep : ∀ b o, b ≠ e → h₁.get? b = some o →
      ((h₁.push { cls := .type "traceback", dict := none, data := .fields ([.none, .ref L', .none, rawInt L', .none] ++ (if pl.isEmpty then List.replicate 6 Value.none else pl)).toArray }).update e (Obj.mapFields (·.setIfInBounds 1 (Value.ref h₁.objs.size)))).get? b = some o :=
    fun b o hbe hb => by
      rw [Heap.get?_update_other _ _ (Ne.symm hbe)]
      exact Heap.get?_push_of_some _ hb
  have fresh : ∀ b o, h.get? b = some o → b ≠ h₁.objs.size := fun b o hb q => by
    by_cases b1 : b = L'
    · rw [b1] at q; exact absurd (Heap.lt_size hsl') (by rw [q]; exact Nat.lt_irrefl _)
    · by_cases b2 : b = L
      · rw [b2] at q; exact absurd (Heap.lt_size hsl) (by rw [q]; exact Nat.lt_irrefl _)
      · have := (out b b1 b2).trans (x.keeps _ _ hb)
        exact absurd (Heap.lt_size this) (by rw [q]; exact Nat.lt_irrefl _)
  have nnew : ∀ p ∈ new, p.1 ≠ e := fun p hp q => by have := (N p (List.mem_append_left _ hp)).1; rw [q, x.new] at this; cases this
  refine wpAny_setField he₂ hd hsz (k _ h₁.objs.size { cls := .type "traceback", dict := none, data := .fields ([.none, .ref L', .none, rawInt L', .none] ++ (if pl.isEmpty then List.replicate 6 Value.none else pl)).toArray } (ob.mapFields (·.setIfInBounds 1 (Value.ref h₁.objs.size))) { oL with slots := sl } (caller_up C) ⟨⟨_, es', ep', keep L' _ eL'.symm hsl', hd', hk', hf'⟩, fun b o hb => ?_, F.above⟩ (fun p hp => ?_) (fun p hp => ?_) nnew eL ⟨?_, ⟨_, hd₃, by simp [hsz], ?_⟩, ?_⟩)
  · have b1 : b ≠ L' := fun q => by rw [q, hL'0] at hb; cases hb
    have b2 : b ≠ L := fun q => by rw [q, hL0] at hb; cases hb
    have b3 : b ≠ e := fun q => by have := F.keep b o hb; rw [q, x.new] at this; cases this
    exact keep b o b3 ((out b b1 b2).trans (x.keeps _ _ (F.keep b o hb)))
  · rcases List.mem_cons.mp hp with rfl | hp
    · refine ⟨(Heap.get?_update_other _ _ (Ne.symm hTe)).trans (Heap.get?_push_size h₁ rfl), (fresh L' o' hL').symm, ?_⟩
      cases hq : h₀.get? h₁.objs.size with
      | none => rfl
      | some o => exact absurd rfl (fresh _ _ (F.keep _ _ hq))
    · rcases List.mem_cons.mp hp with rfl | hp
      · refine ⟨Heap.get?_update_self _ he₂ (Obj.isFreed_of_fields hd₃), eL', ?_⟩
        cases hq : h₀.get? e with
        | none => rfl
        | some o => have := F.keep _ _ hq; rw [x.new] at this; cases this
      · rcases List.mem_append.mp hp with hp | hp
        · obtain ⟨a1, a2, a3⟩ := N p (List.mem_append_left _ hp)
          exact ⟨keep _ _ (nnew p hp) ((out _ a2 (hne p hp)).trans (x.keeps _ _ a1)), a2, a3⟩
        · rw [List.mem_singleton] at hp; subst hp
          exact ⟨keep _ _ eL.symm hsl, hLL, hL0⟩
  · rcases List.mem_cons.mp hp with rfl | hp
    · exact Ne.symm hTe
    · rcases List.mem_append.mp hp with hp | hp
      · exact fresh _ _ (N p (List.mem_append_left _ hp)).1
      · rw [List.mem_singleton] at hp; subst hp; exact fresh _ _ hLh
  · rw [Obj.cls_mapFields]; exact hcls
  · rw [Array.getElem?_setIfInBounds_ne (by decide)]; exact h2
  · exact ⟨_, rfl, by first | (simp; done) | (rcases hpl with rfl | ⟨_, _, _, _, _, _, _, rfl⟩ <;> simp)⟩
theorem note_again {Q : Unit → Shared → Prop} (N : News h₀ L' s.heap ((T, oT) :: (e, oe) :: new)) (x : Exc e T oe oT (rawInt L') ctx) (k : Q () s) :
    wpAny (model prog w) A (noteFrame (.ref e) (envOf name scope L' f cd)) Q E s := by
  obtain ⟨hc, ⟨vs, hd, h1, h2⟩, ts, hdt, h3⟩ := x
  have he := (N _ (List.mem_cons_of_mem _ List.mem_cons_self)).1
  have ht := (N _ List.mem_cons_self).1
  unfold noteFrame
  simp only [show (envOf name scope L' f cd).frame = some L' from rfl]
  refine wpAny_bind (wpAny_field he hd h1 ?_)
  rw [if_pos (show (Value.ref T != Value.none) = true from by simp)]
  refine wpAny_bind (wpAny_field ht hdt h3 ?_)
  rw [if_pos (show (rawInt L' == rawInt L') = true from by simp)]
  exact wpAny_pure k
theorem flight {Q : Unit → Shared → Prop} {fr : Option Addr} (F : Fr h₀ L' s.heap m) (N : News h₀ L' s.heap ((T, oT) :: (e, oe) :: new)) (ap : ∀ p ∈ (e, oe) :: new, p.1 ≠ T) (x : Exc e T oe oT fl ctx)
    (k : ∀ h' oT', Fr h₀ L' h' m → News h₀ L' h' ((T, oT') :: (e, oe) :: new) → Exc e T oe oT' (fr.elim .none fun f => rawInt f) ctx → Q () { s with heap := h' }) :
    wpAny (model prog w) A (setFlight (.ref e) fr) Q E s := by
  obtain ⟨hc, ⟨vs, hd, h1, h2⟩, ts, hdt, h3⟩ := x
  have he := (N _ (List.mem_cons_of_mem _ List.mem_cons_self)).1
  obtain ⟨ht, htL, ht0⟩ := N _ List.mem_cons_self
  have hsz : 3 < ts.size := (Array.getElem?_eq_some_iff.mp h3).1
  obtain ⟨o', es', ep', hL', hd', hk', hf'⟩ := F.ns
  unfold setFlight
  refine wpAny_bind (wpAny_field he hd h1 ?_)
  rw [if_pos (show (Value.ref T != Value.none) = true from by simp)]
  refine wpAny_setField ht hdt hsz (k _ (oT.mapFields (·.setIfInBounds 3 (fr.elim .none fun f => rawInt f))) ⟨⟨o', es', ep', (Heap.get?_update_ne _ _ _ _ (Ne.symm htL)).trans hL', hd', hk', hf'⟩, fun b o hb => ?_, F.above⟩ (fun p hp => ?_) ⟨hc, ⟨vs, hd, h1, h2⟩, _, Obj.data_mapFields hdt _, by simp [Array.getElem?_setIfInBounds, hsz]⟩)
  · exact (Heap.get?_update_ne _ _ _ _ (fun q => by rw [q, ht0] at hb; cases hb)).trans (F.keep b o hb)
  · rcases List.mem_cons.mp hp with rfl | hp
    · exact ⟨Heap.get?_update_self _ ht (Obj.isFreed_of_fields (Obj.data_mapFields hdt _)), htL, ht0⟩
    · obtain ⟨a1, a2, a3⟩ := N p (List.mem_cons_of_mem _ hp)
      exact ⟨(Heap.get?_update_ne _ _ _ _ (ap p hp)).trans a1, a2, a3⟩
theorem Exc.held (F : Fr h₀ L' h m) (N : News h₀ L' h ((T, oT) :: (e, oe) :: new)) (ap : ∀ p ∈ (e, oe) :: new, p.1 ≠ T) (x : Exc e T oe oT fl ctx) : TT.HeldNA h₀ L' h m e "IndexError" new fl := by
  obtain ⟨hc, ⟨vs, hd, h1, h2⟩, ts, hdt, h3⟩ := x
  have he := N _ (List.mem_cons_of_mem _ List.mem_cons_self)
  obtain ⟨ht, htL, ht0⟩ := N _ List.mem_cons_self
  refine ⟨⟨F, ⟨oe, vs, T, oT, ts, he.1, hc, hd, h1, ht, hdt, h3, htL, (ap _ List.mem_cons_self).symm, ht0⟩, he.2.2⟩, fun p hp => N p (List.mem_cons_of_mem _ (List.mem_cons_of_mem _ hp)), ?_⟩
  intro ob ws tb e1 e2 e3 p hp
  rw [he.1] at e1
  obtain rfl := Option.some.inj e1
  rw [hd] at e2
  injection e2 with e2
  subst e2
  rw [h1] at e3
  injection e3 with e3
  injection e3 with e3
  subst e3
  exact ap p (List.mem_cons_of_mem _ hp)
/-- an IndexError raised where another one, c, is being handled -/
theorem entry_unchain : entryFor table "proto.unchain" = some Builtin.«proto.unchain» := entryFor_of_tree (by kernel_rfl)
theorem raise_on {α : Type} {Q : α → Shared → Prop} {c a : Addr} {oc oa : Obj} {vc va : Array Value} (hh : A.handled = some (.ref c)) (hc : s.heap.get? c = some oc) (hd : oc.data = .fields vc) (h2 : vc[2]? = some .none) (ha : s.heap.get? a = some oa) (hda : oa.data = .fields va) (hsz : 2 < va.size) (hne : a ≠ c)
    (k : E (.ref a) { s with heap := s.heap.update a (Obj.mapFields (·.setIfInBounds 2 (.ref c))) }) : wpAny (model prog w) A (raiseNew (.ref a) : Sem α) Q E s := by
  unfold raiseNew
  refine wpAny_bind (wpAny_handled ?_)
  rw [hh]
  simp only
  rw [if_pos (show (Value.ref c != Value.ref a) = true from by simp [hne.symm])]
  refine wpAny_bind (wpAny_holding (wpAny_runValue (codeAny_builtin entry_unchain ?_)))
  unfold Builtin.«proto.unchain»
  simp only
  refine wpAny_bind (wpAny_field hc hd h2 ?_)
  rw [if_pos (show (Value.none == Value.none) = true from rfl)]
  refine wpAny_pure ?_
  show wpAny _ _ (setField (.ref a) 2 (.ref c) >>= fun _ => throw (Value.ref a)) _ _ _
  exact wpAny_bind (wpAny_setField ha hda hsz (wpAny_throw k))
theorem nx_pushed {c : Addr} {t o : Obj} {v : Value} (ho : o.cls = .type "IndexError") (hd : o.data = .fields #[v, .none, .none, .none, .bool false, .none]) (hf : o.isFreed = false) (hlt : c < h.objs.size) :
    NX h (((h.push t).push o).update (h.push t).objs.size (Obj.mapFields (·.setIfInBounds 2 (.ref c)))) (h.push t).objs.size (.ref c) := by
  have hlt2 : h.objs.size < (h.push t).objs.size := by simp
  have hself := Heap.get?_push_size (h.push t) (o := o) hf
  refine ⟨fun b ob hb => ?_, Heap.get?_none_of_le (by simp), o.mapFields (·.setIfInBounds 2 (.ref c)), _, Heap.get?_update_self _ hself (Obj.isFreed_of_fields (Obj.data_mapFields hd _)), by rw [Obj.cls_mapFields]; exact ho, Obj.data_mapFields hd _, by simp, by simp⟩
  have : b ≠ (h.push t).objs.size := Nat.ne_of_lt (Nat.lt_trans (Heap.lt_size hb) hlt2)
  rw [Heap.get?_update_ne _ _ _ _ this]
  exact Heap.get?_push_of_some _ (Heap.get?_push_of_some _ hb)
theorem raiseMade_on {α : Type} {msg : String} {Q : α → Shared → Prop} {c : Addr} {oc : Obj} {vc : Array Value} (hh : A.handled = some (.ref c)) (hc : s.heap.get? c = some oc) (hd : oc.data = .fields vc) (h2 : vc[2]? = some .none)
    (k : ∀ h' tk e, NX s.heap h' e (.ref c) → E (.ref e) { s with heap := h', toks := tk }) (hm : (msg : Str).length ≤ sizeLine := by size_fits) : wpAny (model prog w) A (raiseErrorMade "IndexError" msg : Sem α) Q E s := by
  unfold raiseErrorMade
  refine wpAny_bind (wpAny_mkStr (wpAny_bind ?_) hm)
  unfold newExc newTuple
  refine wpAny_bind (wpAny_newObj_type ?_)
  refine wpAny_bind (m := firstArgMember _ _) (wpAny_of_eq (a := Value.none) (by simp only [firstArgMember, plainExc_IndexError.first]; rfl) ?_)
  rw [plainExc_IndexError.own]
  refine wpAny_newObj_type ?_
  have hlt := Heap.lt_size hc
  refine raise_on hh (Heap.get?_push_of_some _ (Heap.get?_push_of_some _ hc)) hd h2 (Heap.get?_push_size _ rfl) rfl (by simp) (Nat.ne_of_gt (Nat.lt_trans hlt (by simp))) (k _ _ _ (nx_pushed (v := .ref s.heap.objs.size) rfl (by simp) rfl hlt))
theorem raiseWords_on {α : Type} {msg : String} {Q : α → Shared → Prop} {c : Addr} {oc : Obj} {vc : Array Value} (hh : A.handled = some (.ref c)) (hc : s.heap.get? c = some oc) (hd : oc.data = .fields vc) (h2 : vc[2]? = some .none)
    (k : ∀ h' tk e, NX s.heap h' e (.ref c) → E (.ref e) { s with heap := h', toks := tk }) : wpAny (model prog w) A (raiseErrorWords "IndexError" msg : Sem α) Q E s := by
  unfold raiseErrorWords
  refine wpAny_bind (wpAny_mkText (wpAny_bind ?_))
  unfold newExc newTuple
  refine wpAny_bind (wpAny_newObj_type ?_)
  refine wpAny_bind (m := firstArgMember _ _) (wpAny_of_eq (a := Value.none) (by simp only [firstArgMember, plainExc_IndexError.first]; rfl) ?_)
  rw [plainExc_IndexError.own]
  refine wpAny_newObj_type ?_
  have hlt := Heap.lt_size hc
  refine raise_on hh (Heap.get?_push_of_some _ (Heap.get?_push_of_some _ hc)) hd h2 (Heap.get?_push_size _ rfl) rfl (by simp) (Nat.ne_of_gt (Nat.lt_trans hlt (by simp))) (k _ _ _ (nx_pushed (v := .ref s.heap.objs.size) rfl (by simp) rfl hlt))
theorem getItem_out_on {l c : Addr} {items : Array Value} {k : Int} {t : Tok} {Q : Value → Shared → Prop} {oc : Obj} {vc : Array Value} (hh : A.handled = some (.ref c)) (hcc : s.heap.get? c = some oc) (hcd : oc.data = .fields vc) (h2 : vc[2]? = some .none) (hl : s.heap.IsList l items)
    (hout : (items.size : Int) ≤ k) (hlo : -(2 ^ 63) ≤ k) (hhi : k < 2 ^ 63)
    (hE : ∀ h' tk e, NX s.heap h' e (.ref c) → E (.ref e) { s with heap := h', toks := tk }) :
    wpAny (model prog w) A (getItem (.ref l) (.int k t)) Q E s := by
  obtain ⟨o, ho, hc, ne, hd⟩ := id hl
  unfold getItem
  try with_reducible refine wpAny_holding ?_
  first | refine wpAny_bind (wpAny_pure ?_) | skip
  refine wpAny_bind (wpAny_sequenceKey hl.typeIs (by decide) ?_)
  refine wpAny_bind (wpAny_callSpecial?_slot (name := Str.ofString "__getitem__") hl.typeIs slot_list_getitem
    (wpAny_call_entry slot_list_getitem hl.typeIs entry_list_getitem ?_ (args_list_getitem _ _)))
  show wpAny _ _ (Builtin.List.listSubscript? (.int k t) >>= _) _ _ s
  refine wpAny_bind (wpAny_listSubscript_int (fitsIndex_both hlo hhi) ?_)
  clear hlo hhi
  cases k with
  | ofNat j =>
    have hx : items[j]? = none := Array.getElem?_eq_none (by have : (items.size : Int) ≤ (j : Int) := hout; omega)
    show wpAny _ _ ((seqItemAt l j >>= fun r => pure (r.map (j, ·))) >>= _) _ _ s
    refine wpAny_bind (wpAny_bind (wpAny_seqItemAt ho hd (wpAny_pure ?_)))
    rw [hx]
    first
      | exact wpAny_bind (wpAny_rule (raiseWords_on hh hcc hcd h2 hE))
      | exact wpAny_bind (wpAny_rule (raiseMade_on hh hcc hcd h2 hE))
      | exact wpAny_bind (wpAny_rule (wpAny_bind (raiseWords_on hh hcc hcd h2 hE)))
      | exact wpAny_bind (wpAny_rule (wpAny_bind (raiseMade_on hh hcc hcd h2 hE)))
      | exact wpAny_bind (wpAny_bind (wpAny_rule (raiseWords_on hh hcc hcd h2 hE)))
      | exact wpAny_bind (wpAny_bind (wpAny_rule (raiseMade_on hh hcc hcd h2 hE)))
      | exact wpAny_rule (raiseWords_on hh hcc hcd h2 hE)
      | exact wpAny_rule (raiseMade_on hh hcc hcd h2 hE)
  | negSucc j => exact absurd hout (by have := Int.negSucc_lt_zero j; omega)
/-- an item of a list of texts, where nothing is being handled -/
theorem text_or {value slice : PySem.Expr} {a : Addr} {va : List Value} {ra : List PySem.Str} {n : Nat} {news : List (Addr × Obj)} {j : Int} {u : Tok} {Q : Value → Shared → Prop} (hh : A.handled = none) (N : News h₀ L' s.heap news) (hm : (a, W.listOf va.toArray n) ∈ news) (ia : StrsAre va ra) (hl : ra.length ≤ 2 ^ 20) (j0 : 0 ≤ j)
    (hE : (ra.length : Int) ≤ j → j < 2 ^ 63 → ∀ h' tk e, NX s.heap h' e .none → E (.ref e) { s with heap := h', toks := tk }) (hQ : j < ra.length → ∀ t, Q (.str (ra.getD j.toNat Str.empty) t) s) (hj : j < 2 ^ 63)
    (hs : subscripted slice false (.ref a) (.int j u) = operate [.ref a, .int j u] (getItem (.ref a) (.int j u)) := by with_unfolding_all rfl)
    (hg : ∀ r, letTemporaryGo value (.ref a) r = pure () := by intro _; with_unfolding_all rfl) : wpAny (model prog w) A (subscriptTail value slice (.ref a) (.int j u)) Q E s := by
  have hL := News.isList N hm
  have hsz : va.toArray.size = ra.length := by rw [List.size_toArray]; exact ia.length
  by_cases hin : j < ra.length
  · have e : ra[j.toNat]? = some (ra.getD j.toNat Str.empty) := by
      have : j.toNat < ra.length := by omega
      simp [List.getD, this]
    obtain ⟨t, ht⟩ := ia.at e
    refine item_list hL j0 (by omega) (x := .str (ra.getD j.toNat Str.empty) t) (by simpa using ht) (hQ hin t) hs hg
  · have ho : (ra.length : Int) ≤ j := by omega
    exact subscriptTail_builtin hL.typeIs slot_list_getitem.lookup (wpAny_getItem_list_out hh hL (by rw [hsz]; exact .inr ho) (by omega) hj fun h' tk e x => hE ho hj h' tk e (NX.of x)) hs hg
theorem text_or_on {value slice : PySem.Expr} {a c : Addr} {va : List Value} {ra : List PySem.Str} {n : Nat} {news : List (Addr × Obj)} {j : Int} {u : Tok} {Q : Value → Shared → Prop} {oc : Obj} {vc : Array Value} (hh : A.handled = some (.ref c)) (N : News h₀ L' s.heap news) (hmc : (c, oc) ∈ news) (hcd : oc.data = .fields vc) (h2 : vc[2]? = some .none) (hm : (a, W.listOf va.toArray n) ∈ news) (ia : StrsAre va ra) (hl : ra.length ≤ 2 ^ 20) (j0 : 0 ≤ j)
    (hE : (ra.length : Int) ≤ j → j < 2 ^ 63 → ∀ h' tk e, NX s.heap h' e (.ref c) → E (.ref e) { s with heap := h', toks := tk }) (hQ : j < ra.length → ∀ t, Q (.str (ra.getD j.toNat Str.empty) t) s) (hj : j < 2 ^ 63)
    (hs : subscripted slice false (.ref a) (.int j u) = operate [.ref a, .int j u] (getItem (.ref a) (.int j u)) := by with_unfolding_all rfl)
    (hg : ∀ r, letTemporaryGo value (.ref a) r = pure () := by intro _; with_unfolding_all rfl) : wpAny (model prog w) A (subscriptTail value slice (.ref a) (.int j u)) Q E s := by
  have hL := News.isList N hm
  have hsz : va.toArray.size = ra.length := by rw [List.size_toArray]; exact ia.length
  by_cases hin : j < ra.length
  · have e : ra[j.toNat]? = some (ra.getD j.toNat Str.empty) := by
      have : j.toNat < ra.length := by omega
      simp [List.getD, this]
    obtain ⟨t, ht⟩ := ia.at e
    refine item_list hL j0 (by omega) (x := .str (ra.getD j.toNat Str.empty) t) (by simpa using ht) (hQ hin t) hs hg
  · have ho : (ra.length : Int) ≤ j := by omega
    exact subscriptTail_builtin hL.typeIs slot_list_getitem.lookup (getItem_out_on hh (N _ hmc).1 hcd h2 hL (by rw [hsz]; omega) (by omega) hj fun h' tk e x => hE ho hj h' tk e x) hs hg
end

/-- a call of a def with a try, from a frame right above the top -/
theorem enter_try {prog : Program} {A : Around} {s : Shared} {h₀ : Heap} {L : Addr} {m : Str → Option Value} {news : List (Addr × Obj)} {K : Frag} {p : Program} {loose : List Str}
    {R : Result → Shared → Prop} {name qual : Str} {params : Arguments} {body : List Stmt} {scope : Scope} {dV kV doc pm cdv ct oc : Value} {an od : Option Addr} {osl : Array (Option Value)} {f : Addr} {args : Args} {binds : List (Str × Value)}
    (F : Fr h₀ L s.heap m) (X₀ : K.In h₀) (N : News h₀ L s.heap news) (T : Top p loose mean mg mb h₀)
    (ho : K.lookup f = some ⟨oc, od, .func (fnOf name qual params body scope dV kV doc pm an cdv ct), osl⟩) (hcd : codeIn K cdv qual = true) (hroom : A.depth < recursionLimit)
    (hbind : BindsTo s (fnOf name qual params body scope dV kV doc pm an cdv ct) args binds) (hloc : ∀ y ∈ binds, scope.names.lookup y.1 = some .local)
    (h : ∀ oL h₁ L', TI.Caller h₀ L m oL → (∀ p ∈ news, p.1 ≠ L) → (∀ p ∈ news, p.1 < L') → Fr h₀ L' h₁ (fun y => binds.reverse.lookup y) → News h₀ L' h₁ (news ++ [(L, oL)]) →
      wpAny (model prog w) (A.deeper (envOf qual scope L' f cdv)) (execs body (envOf qual scope L' f cdv))
        (fun fl s' => TI.LeaveI s' (R (.ok (.ret (match fl with | .ret v => v | _ => .none))) s'))
        (fun e s' => wpAny (model prog w) (A.deeper (envOf qual scope L' f cdv)) (leaving (envOf qual scope L' f cdv) e) (fun _ s'' => TI.LeaveX (R (.error e) s'')) (fun e' s'' => TI.LeaveX (R (.error e') s'')) s')
        { s with heap := h₁, toks := s.toks + binds.length })
    (hco : scope.isCoroutine = false := by rfl) (hgen : scope.isGenerator = false := by rfl) (hk : scope.kind = .function := by rfl)
    (hcell : ∀ x ∈ scope.names, x.2 ≠ .cell := by decide) : codeAny (model prog w) A (.call (.ref f) args) R s := by
  have X := X₀.keeps F.keep
  obtain ⟨oL, es, ep, hL, hLd, hLk, hLf⟩ := F.ns
  have hLt := Heap.lt_size hL
  refine codeAny_call_def (fd := fnOf name qual params body scope dV kV doc pm an cdv ct) (body := body) (binds := binds) hroom (X _ _ ho) rfl (T.nolimit.keeps F.keep) (codeRec_of X hcd) rfl hbind hcell hloc (fun h₁ hns hk₁ => ?_) hco hgen hk
  have up : ∀ b o, s.heap.get? b = some o → h₁.get? b = some o := fun b o e => hk₁ b o e
  refine wpAny_mono (h oL h₁ _ ⟨fun h' sl e => ⟨_, es, ep, e, hLd, hLk, hLf⟩, ⟨es, ep, hLd⟩, F.above⟩ (fun p hp => (N p hp).2.1) (fun p hp => Heap.lt_size (N p hp).1)
    ⟨hns, fun b o e => up b o (F.keep b o e), Nat.le_trans F.above (Nat.le_of_lt hLt)⟩ (fun p hp => ?_)) (fun _ _ x => x) fun _ _ x => wpAny_mono x (fun _ _ y => y) fun _ _ y => y
  rcases List.mem_append.mp hp with hp | hp
  · obtain ⟨h1, h2, h3⟩ := N p hp
    exact ⟨up _ _ h1, Nat.ne_of_lt (Heap.lt_size h1), h3⟩
  · rcases List.mem_cons.mp hp with rfl | hp
    · exact ⟨up _ _ hL, Nat.ne_of_lt hLt, Heap.get?_none_of_le F.above⟩
    · exact nomatch hp
def TellT (w : World) (mean : ExcName → Option Value) (mg mb : Str → Option Value) (f : Addr) (d : Nat) (news : List (Addr × Obj)) (vs : List Value) (Out : Value → List (Addr × Obj) → Prop) : Prop :=
  ∀ (A : Around) (env : Env) (h₀ : Heap) (L : Addr) (m : Str → Option Value) (s : Shared) (Q E : Value → Shared → Prop),
    A.frames = some [env] → A.handled = none → env.frame = some L → env.scope.kind ≠ .module → Fr h₀ L s.heap m → (hd.heap_39 w.params).In h₀ → News h₀ L s.heap news → Top hd.view_39 (looseW hd.view_39 []) mean mg mb h₀ →
    A.depth + d < recursionLimit → A.units + 8 * d < cLine →
    (∀ (r : Value) (new : List (Addr × Obj)) (h' : Heap) (tk' : Nat), Fr h₀ L h' m → News h₀ L h' (new ++ news) → (∀ q ∈ new, ∀ p ∈ news, p.1 < q.1) → Out r new → Q r { s with heap := h', toks := tk' }) →
      wpAny (model PySem.Challenge.rw_mj0090_01.row.prog w) A (call (.ref f) vs) Q E s
abbrev ltS (x y : PySem.Str) : Prop := x.cps.toList < y.cps.toList
def sldF : List PySem.Str → List PySem.Str → List PySem.Str × List PySem.Str
  | [], ys => ([], ys)
  | xs, [] => (xs, [])
  | x :: xs, y :: ys =>
    if ltS x y then let r := sldF (xs.dropWhile (· == x)) (y :: ys); (x :: r.1, r.2)
    else if ltS y x then let r := sldF (x :: xs) (ys.dropWhile (· == y)); (r.1, y :: r.2)
    else sldF (xs.dropWhile (· == x)) (ys.dropWhile (· == y))
  termination_by xs ys => xs.length + ys.length
  decreasing_by
    all_goals
      have h1 := (List.dropWhile_sublist (fun z => z == x) (l := xs)).length_le
      have h2 := (List.dropWhile_sublist (fun z => z == y) (l := ys)).length_le
      simp only [List.length_cons]
      omega
structure SldInv (ra rb : List PySem.Str) (i j : Int) (ms us : List PySem.Str) : Prop where
  i0 : 0 ≤ i
  i1 : i ≤ ra.length
  j0 : 0 ≤ j
  j1 : j ≤ rb.length
  lm : (ms.length : Int) ≤ i
  lu : (us.length : Int) ≤ j
  hm : ms ++ (sldF (ra.drop i.toNat) (rb.drop j.toNat)).1 = (sldF ra rb).1
  hu : us ++ (sldF (ra.drop i.toNat) (rb.drop j.toNat)).2 = (sldF ra rb).2
structure SS where
  i : Int
  ti : Tok
  j : Int
  tj : Tok
  vm : List Value
  nm : Nat
  vu : List Value
  nu : Nat
  ms : List PySem.Str
  us : List PySem.Str
abbrev ssLed (U M : Addr) (led : List (Addr × Obj)) (c : SS) : List (Addr × Obj) := (U, W.listOf c.vu.toArray c.nu) :: (M, W.listOf c.vm.toArray c.nm) :: led
abbrev ssPs (c : SS) : List (Str × Value) := [(Str.ofString "i", .int c.i c.ti), (Str.ofString "j", .int c.j c.tj)]
abbrev ssF (c : SS) : Prop := StrsAre c.vm c.ms ∧ StrsAre c.vu c.us
abbrev ssP (ra rb : List PySem.Str) (c : SS) : Prop := SldInv ra rb c.i c.j c.ms c.us
abbrev ssM (ra rb : List PySem.Str) (c : SS) : Nat := (ra.length - c.i.toNat) + (rb.length - c.j.toNat)
abbrev ssSt : List Str := [Str.ofString "e", Str.ofString "a"]
section
variable {prog : Program} {A : Around} {E : Value → Shared → Prop} {Q : Flow → Shared → Prop} {s : Shared} {env : Env} {h₀ : Heap} {L : Addr} {ra rb : List PySem.Str}
theorem sld_outer {test : PySem.Expr} {body : List Stmt} {pos : Pos} {m₀ : Str → Option Value} {U M : Addr} {led : List (Addr × Obj)} {ti tj : Tok}
    (F : Fr h₀ L s.heap m₀) (N : News h₀ L s.heap ((U, W.listOf #[] 0) :: (M, W.listOf #[] 0) :: led)) (hi : m₀ (Str.ofString "i") = some (.int 0 ti)) (hj : m₀ (Str.ofString "j") = some (.int 0 tj))
    (turn : ∀ i ti j tj vm nm vu nu ms us (u : Str → Option Value) h tk, StrsAre vm ms → StrsAre vu us → SldInv ra rb i j ms us →
      Fr h₀ L h (kstB (fun z => if ssSt.contains z then u z else m₀ z) [(Str.ofString "i", .int i ti), (Str.ofString "j", .int j tj)]) → News h₀ L h ((U, W.listOf vu.toArray nu) :: (M, W.listOf vm.toArray nm) :: led) →
      wpAny (model prog w) A (isTrue test env (eval test env)) (fun b s₂ =>
        if b = true then wpAny (model prog w) A (execs body env) (KswPost h₀ L s (ssLed U M led) ssPs ssF ssSt m₀ (ssP ra rb) (ssM ra rb) Q ⟨i, ti, j, tj, vm, nm, vu, nu, ms, us⟩) E s₂ else Q .next s₂) E { s with heap := h, toks := tk })
    (hE : PassesOwn (model prog w) A env E) :
    wpAny (model prog w) A (exec (.While test body [] pos) env) Q E s := by
  refine ksw_while (ssLed U M led) ssPs ssF ssSt (ssP ra rb) (ssM ra rb) ⟨0, ti, 0, tj, [], 0, [], 0, [], []⟩ F N ⟨.nil, .nil⟩ ?_ ⟨Int.le_refl 0, Int.natCast_nonneg _, Int.le_refl 0, Int.natCast_nonneg _, Int.le_refl 0, Int.le_refl 0, by simp, by simp⟩ ?_ hE
  · intro p hp
    simp only [ssPs, List.mem_cons, List.not_mem_nil, or_false] at hp
    rcases hp with rfl | rfl
    · exact hi
    · exact hj
  · intro c u h tk hf hp F N
    exact turn c.i c.ti c.j c.tj c.vm c.nm c.vu c.nu c.ms c.us u h tk hf.1 hf.2 hp F N
/-- a run of equal texts: i goes from k on -/
structure RunOk (ra : List PySem.Str) (x : PySem.Str) (k i : Int) : Prop where
  lo : k ≤ i
  hi : i ≤ ra.length
  eq : ∀ t : Nat, k ≤ t → (t : Int) < i → ra.getD t Str.empty = x
abbrev rnPs (n : Str) (c : Int × Tok) : List (Str × Value) := [(n, .int c.1 c.2)]
theorem run_while {test : PySem.Expr} {body : List Stmt} {pos : Pos} {m₀ : Str → Option Value} {led : List (Addr × Obj)} {k : Int} {t : Tok} (n : Str) (x : PySem.Str)
    (F : Fr h₀ L s.heap m₀) (N : News h₀ L s.heap led) (hi : m₀ n = some (.int k t)) (k0 : 0 ≤ k) (hk : k ≤ ra.length)
    (turn : ∀ i ti h tk, RunOk ra x k i → k ≤ i → i ≤ ra.length → Fr h₀ L h (kstB m₀ [(n, .int i ti)]) → News h₀ L h led →
      wpAny (model prog w) A (isTrue test env (eval test env)) (fun b s₂ =>
        if b = true then wpAny (model prog w) A (execs body env) (KswPost h₀ L s (fun _ => led) (rnPs n) (fun _ => True) [] m₀ (fun c => RunOk ra x k c.1) (fun c => ra.length - c.1.toNat) Q (i, ti)) E s₂ else Q .next s₂) E { s with heap := h, toks := tk })
    (hE : PassesOwn (model prog w) A env E) :
    wpAny (model prog w) A (exec (.While test body [] pos) env) Q E s := by
  refine ksw_while (fun _ => led) (rnPs n) (fun _ => True) [] (fun c => RunOk ra x k c.1) (fun c => ra.length - c.1.toNat) (k, t) F N trivial ?_ ⟨Int.le_refl _, hk, fun t h1 h2 => absurd h1 (by omega)⟩ ?_ hE
  · intro p hp
    simp only [rnPs, List.mem_singleton] at hp
    subst hp; exact hi
  · intro c u h tk _ hp F N
    exact turn c.1 c.2 h tk hp hp.lo hp.hi F N
theorem run_end {m₀ m' : Str → Option Value} {led : List (Addr × Obj)} {n : Str} {x : PySem.Str} {k i i' : Int} {t t' : Tok} {h' : Heap} {tk : Nat} (r : RunOk ra x k i) (k0 : 0 ≤ k) (hi : i < ra.length) (e : ra.getD i.toNat Str.empty = x) (q : i' = i + 1)
    (F : Fr h₀ L h' m') (N : News h₀ L h' led) (hn : m' n = some (.int i' t')) (hr : ∀ z, z ≠ n → m' z = m₀ z) :
    KswEnd h₀ L s (fun _ => led) (rnPs n) (fun _ => True) [] m₀ (fun c => RunOk ra x k c.1) (fun c => ra.length - c.1.toNat) (i, t) { s with heap := h', toks := tk } := by
  refine ksw_end (i', t') F N (fun p hp => hp) trivial ?_ (fun z hz _ => hr z (hz _ (List.mem_singleton.mpr rfl))) ⟨by have := r.lo; omega, by omega, fun t h1 h2 => ?_⟩ ?_
  · intro p hp
    simp only [rnPs, List.mem_singleton] at hp
    subst hp; exact hn
  · by_cases c : (t : Int) < i
    · exact r.eq t h1 c
    · have : t = i.toNat := by omega
      rw [this]; exact e
  · have := r.lo
    show ra.length - i'.toNat < ra.length - i.toNat
    omega
theorem sld_end {m₀ m' : Str → Option Value} {U M : Addr} {led : List (Addr × Obj)} {c : SS} {i' j' : Int} {ti tj : Tok} {vm vu : List Value} {nm nu : Nat} {ms us : List PySem.Str} {h' : Heap} {tk : Nat}
    (F : Fr h₀ L h' m') (N : News h₀ L h' ((U, W.listOf vu.toArray nu) :: (M, W.listOf vm.toArray nm) :: led)) (hi : m' (Str.ofString "i") = some (.int i' ti)) (hj : m' (Str.ofString "j") = some (.int j' tj))
    (hr : ∀ z, z ≠ Str.ofString "i" → z ≠ Str.ofString "j" → z ≠ Str.ofString "e" → z ≠ Str.ofString "a" → m' z = m₀ z) (sm : StrsAre vm ms) (su : StrsAre vu us) (I : SldInv ra rb i' j' ms us) (hm : ssM ra rb ⟨i', ti, j', tj, vm, nm, vu, nu, ms, us⟩ < ssM ra rb c) :
    KswEnd h₀ L s (ssLed U M led) ssPs ssF ssSt m₀ (ssP ra rb) (ssM ra rb) c { s with heap := h', toks := tk } := by
  refine ksw_end ⟨i', ti, j', tj, vm, nm, vu, nu, ms, us⟩ F N (fun p hp => hp) ⟨sm, su⟩ ?_ (fun z hz hs => ?_) I hm
  · intro p hp
    simp only [ssPs, List.mem_cons, List.not_mem_nil, or_false] at hp
    rcases hp with rfl | rfl
    · exact hi
    · exact hj
  · simp only [ssPs, List.forall_mem_cons, List.not_mem_nil, false_implies, implies_true, and_true] at hz
    simp only [ssSt, List.contains_cons, List.contains_nil, Bool.or_false, Bool.or_eq_false_iff, beq_eq_false_iff_ne, ne_eq] at hs
    exact hr z hz.1 hz.2 hs.1 hs.2
end
section
variable {A : Around} {E : Value → Shared → Prop} {Q : Flow → Shared → Prop} {s : Shared} {h₀ h : Heap} {L L' f e T : Addr} {m m₀ : Str → Option Value} {name : Str} {scope : Scope} {cd : Value} {oL oe oT : Obj} {fl ctx : Value} {env : Env} {new : List (Addr × Obj)} {b₀ : Stmt} {suite : List Stmt} {np pos : Pos} {rest : List ExceptHandler}
abbrev PG := PySem.Challenge.rw_mj0090_01.row.prog
theorem catch_held (x : Exc e T oe oT (rawInt L') ctx) (F : Fr h₀ L' s.heap m) (N : News h₀ L' s.heap ((T, oT) :: (e, oe) :: new)) (ap : ∀ p ∈ (e, oe) :: new, p.1 ≠ T) (Tp : Top hd.view_39 (looseW hd.view_39 []) mean mg mb h₀)
    (k : ∀ h', Fr h₀ L' h' m → News h₀ L' h' new → wpAny (model PG w) ((A.deeper (envOf name scope L' f cd)).mark (some (.ref e))) (execs (b₀ :: suite) (envOf name scope L' f cd)) Q E { s with heap := h' })
    (hk : scope.kind = .function) (hxk : (envOf name scope L' f cd).kindOf (Str.ofString "IndexError") = some .globalImplicit)
    (hE : PassesOwnAt (model PG w) ((A.deeper (envOf name scope L' f cd)).mark (some (.ref e))) (A.deeper (envOf name scope L' f cd)) (envOf name scope L' f cd) E) :
    wpAny (model PG w) (A.deeper (envOf name scope L' f cd)) (noteFrame (.ref e) (envOf name scope L' f cd)) (fun _ s₂ => wpAny (model PG w) (A.deeper (envOf name scope L' f cd)) (setFlight (.ref e) none) (fun _ s₃ => wpAny (model PG w) (A.deeper (envOf name scope L' f cd)) (handleBy (.ref e) (envOf name scope L' f cd) (.ExceptHandler (some (.Name (Str.ofString "IndexError") np)) none (b₀ :: suite) pos :: rest)) Q E s₃) E s₂) E s := by
  refine note_again N x ?_
  refine flight F N ap x fun h' oT' F' N' x' => ?_
  refine TT.clause_hitTN (x'.held F' N' ap) Tp (k := fun h'' F'' N'' => k h'' F'' N'') (hk := hk) (hxk := hxk) (hE := hE) (hv := by boot_by_name)
theorem catch_new (hfr : A.frames = some [env]) (hk : scope.kind = .function) (hef : env.frame = some L) (hek : env.scope.kind ≠ .module)
    (F : Fr h₀ L' h m) (N : News h₀ L' h (new ++ [(L, oL)])) (hne : ∀ p ∈ new, p.1 ≠ L) (C : TI.Caller h₀ L m₀ oL) (x : NX h s.heap e ctx) (Tp : Top hd.view_39 (looseW hd.view_39 []) mean mg mb h₀)
    (k : ∀ h' oL', TI.Caller h₀ L m₀ oL' → Fr h₀ L' h' m → News h₀ L' h' (new ++ [(L, oL')]) → wpAny (model PG w) ((A.deeper (envOf name scope L' f cd)).mark (some (.ref e))) (execs (b₀ :: suite) (envOf name scope L' f cd)) Q E { s with heap := h' })
    (hxk : (envOf name scope L' f cd).kindOf (Str.ofString "IndexError") = some .globalImplicit)
    (hE : PassesOwnAt (model PG w) ((A.deeper (envOf name scope L' f cd)).mark (some (.ref e))) (A.deeper (envOf name scope L' f cd)) (envOf name scope L' f cd) E) :
    wpAny (model PG w) (A.deeper (envOf name scope L' f cd)) (noteFrame (.ref e) (envOf name scope L' f cd)) (fun _ s₂ => wpAny (model PG w) (A.deeper (envOf name scope L' f cd)) (setFlight (.ref e) none) (fun _ s₃ => wpAny (model PG w) (A.deeper (envOf name scope L' f cd)) (handleBy (.ref e) (envOf name scope L' f cd) (.ExceptHandler (some (.Name (Str.ofString "IndexError") np)) none (b₀ :: suite) pos :: rest)) Q E s₃) E s₂) E s := by
  refine note_new (Around.frames_deeper hfr) hk hef hek F N hne C x fun h' T oT oe oL' C' F' N' ap _ _ x' => ?_
  refine flight F' N' ap x' fun h'' oT' F'' N'' x'' => ?_
  refine TT.clause_hitTN (x''.held F'' N'' ap) Tp (k := fun h3 F3 N3 => k h3 oL' C' F3 N3) (hk := hk) (hxk := hxk) (hE := hE) (hv := by boot_by_name)
theorem fin_new {f₀ : Stmt} {fs : List Stmt} {E₂ : Value → Shared → Prop} (hfr : A.frames = some [env]) (hk : scope.kind = .function) (hef : env.frame = some L) (hek : env.scope.kind ≠ .module)
    (F : Fr h₀ L' h m) (N : News h₀ L' h (new ++ [(L, oL)])) (hne : ∀ p ∈ new, p.1 ≠ L) (C : TI.Caller h₀ L m₀ oL) (x : NX h s.heap e ctx)
    (k : ∀ h' T oT oe oL', TI.Caller h₀ L m₀ oL' → Fr h₀ L' h' m → News h₀ L' h' ((T, oT) :: (e, oe) :: (new ++ [(L, oL')])) → (∀ p ∈ (e, oe) :: (new ++ [(L, oL')]), p.1 ≠ T) → (∀ p ∈ new, p.1 ≠ e) → e ≠ L → Exc e T oe oT .none ctx →
      wpAny (model PG w) ((A.deeper (envOf name scope L' f cd)).mark (some (.ref e))) (execs (f₀ :: fs) (envOf name scope L' f cd))
        (fun g s₂ => match g with | .next => wpAny (model PG w) (A.deeper (envOf name scope L' f cd)) (passOn "try.finally" (.ref e) (envOf name scope L' f cd)) Q E s₂ | g => wpAny (model PG w) (A.deeper (envOf name scope L' f cd)) (setFlight (.ref e) none) (fun _ s₃ => Q g s₃) E s₂)
        (notedBy (model PG w) ((A.deeper (envOf name scope L' f cd)).mark (some (.ref e))) (envOf name scope L' f cd) (cameBackBy (model PG w) (A.deeper (envOf name scope L' f cd)) (envOf name scope L' f cd) E)) { s with heap := h' }) :
    wpAny (model PG w) (A.deeper (envOf name scope L' f cd)) (noteFrame (.ref e) (envOf name scope L' f cd)) (fun _ s₂ => FinallyRaised PG w (A.deeper (envOf name scope L' f cd)) E (envOf name scope L' f cd) (f₀ :: fs) Q (.ref e) s₂) E₂ s := by
  refine note_new (Around.frames_deeper hfr) hk hef hek F N hne C x fun h' T oT oe oL' C' F' N' ap nn eL x' => ?_
  refine ⟨ref_ne_byPass _, note_again N' x' ?_⟩
  refine flight F' N' ap x' fun h'' oT' F'' N'' x'' => ?_
  exact k h'' T oT' oe oL' C' F'' N'' ap nn eL x''
theorem pass_on {B : Around} (F : Fr h₀ L' s.heap m) (N : News h₀ L' s.heap ((T, oT) :: (e, oe) :: new)) (ap : ∀ p ∈ (e, oe) :: new, p.1 ≠ T) (x : Exc e T oe oT fl ctx)
    (k : ∀ h' oT', Fr h₀ L' h' m → News h₀ L' h' ((T, oT') :: (e, oe) :: new) → Exc e T oe oT' (rawInt L') ctx → E (.ref e) { s with heap := h' }) :
    wpAny (model PG w) B (passOn "try.finally" (.ref e) (envOf name scope L' f cd)) Q E s := by
  obtain ⟨vs, hd, h1, h2⟩ := x.flds
  unfold PySem.passOn
  refine wpAny_bind (wpAny_field (N _ (List.mem_cons_of_mem _ List.mem_cons_self)).1 hd h1 ?_)
  rw [if_neg (by simp)]
  refine wpAny_bind (flight F N ap x fun h' oT' F' N' x' => wpAny_throw (k h' oT' F' N' x'))
theorem fin_second {B : Around} (hB : B.frames = some [envOf name scope L' f cd, env]) (hk : scope.kind = .function) (hef : env.frame = some L) (hek : env.scope.kind ≠ .module)
    (F : Fr h₀ L' h m) (N : News h₀ L' h (new ++ [(L, oL)])) (hne : ∀ p ∈ new, p.1 ≠ L) (C : TI.Caller h₀ L m₀ oL) (x : NX h s.heap e ctx)
    (k : ∀ h' T oT oe oL', TI.Caller h₀ L m₀ oL' → Fr h₀ L' h' m → News h₀ L' h' ((T, oT) :: (e, oe) :: (new ++ [(L, oL')])) → (∀ p ∈ (e, oe) :: (new ++ [(L, oL')]), p.1 ≠ T) → Exc e T oe oT (rawInt L') ctx → E (.ref e) { s with heap := h' }) :
    notedBy (model PG w) B (envOf name scope L' f cd) (cameBackBy (model PG w) (A.deeper (envOf name scope L' f cd)) (envOf name scope L' f cd) E) (.ref e) s := by
  unfold notedBy
  refine note_new hB hk hef hek F N hne C x fun h' T oT oe oL' C' F' N' ap nn eL x' => ?_
  unfold cameBackBy
  obtain ⟨vs, hd, h1, h2⟩ := x'.flds
  refine wpAny_bind (wpAny_field (N' _ (List.mem_cons_of_mem _ List.mem_cons_self)).1 hd h1 ?_)
  rw [if_neg (by simp)]
  exact flight (fr := some L') F' N' ap x' fun h'' oT' F'' N'' x'' => k h'' T oT' oe oL' C' F'' N'' ap x''
end
theorem text_or_exc {prog : Program} {A : Around} {E : Value → Shared → Prop} {s : Shared} {h₀ : Heap} {L' : Addr} {value slice : PySem.Expr} {a c T : Addr} {va : List Value} {ra : List PySem.Str} {n : Nat} {news : List (Addr × Obj)} {j : Int} {u : Tok} {Q : Value → Shared → Prop} {oc oT : Obj} {fl : Value} (hh : A.handled = some (.ref c)) (x : Exc c T oc oT fl .none) (N : News h₀ L' s.heap news) (hmc : (c, oc) ∈ news) (hm : (a, W.listOf va.toArray n) ∈ news) (ia : StrsAre va ra) (hl : ra.length ≤ 2 ^ 20) (j0 : 0 ≤ j)
    (hE : (ra.length : Int) ≤ j → j < 2 ^ 63 → ∀ h' tk e, NX s.heap h' e (.ref c) → E (.ref e) { s with heap := h', toks := tk }) (hQ : j < ra.length → ∀ t, Q (.str (ra.getD j.toNat Str.empty) t) s) (hj : j < 2 ^ 63)
    (hs : subscripted slice false (.ref a) (.int j u) = operate [.ref a, .int j u] (getItem (.ref a) (.int j u)) := by with_unfolding_all rfl)
    (hg : ∀ r, letTemporaryGo value (.ref a) r = pure () := by intro _; with_unfolding_all rfl) : wpAny (model prog w) A (subscriptTail value slice (.ref a) (.int j u)) Q E s := by
  obtain ⟨vs, hd, h1, h2⟩ := x.flds
  exact text_or_on hh N hmc hd h2 hm ia hl j0 hE hQ hj hs hg

theorem drop_run : ∀ (n : Nat) (l : List PySem.Str) (x : PySem.Str) (k i : Nat), i = k + n → i ≤ l.length → (∀ t, k ≤ t → t < i → l.getD t Str.empty = x) → (i = l.length ∨ l.getD i Str.empty ≠ x) → (l.drop k).dropWhile (· == x) = l.drop i
  | 0, l, x, k, i, e, hi, _, st => by
    have e' : i = k := by omega
    subst e'
    rcases st with st | st
    · rw [st, List.drop_length]; rfl
    · by_cases c : i < l.length
      · rw [List.drop_eq_getElem_cons c, List.dropWhile_cons]
        have : l.getD i Str.empty = l[i] := by simp [List.getD, c]
        rw [this] at st
        rw [if_neg (by simpa using st)]
      · rw [List.drop_of_length_le (by omega)]; rfl
  | n + 1, l, x, k, i, e, hi, h, st => by
    have c : k < l.length := by omega
    have hk := h k (Nat.le_refl k) (by omega)
    have : l.getD k Str.empty = l[k] := by simp [List.getD, c]
    rw [this] at hk
    rw [List.drop_eq_getElem_cons c, List.dropWhile_cons, if_pos (by simpa using hk)]
    exact drop_run n l x (k + 1) i (by omega) hi (fun t h1 h2 => h t (by omega) h2) st
theorem run_drop {ra : List PySem.Str} {x : PySem.Str} {k i : Int} (k0 : 0 ≤ k) (r : RunOk ra x k i) (st : (ra.length : Int) ≤ i ∨ ra.getD i.toNat Str.empty ≠ x) : (ra.drop k.toNat).dropWhile (· == x) = ra.drop i.toNat := by
  have := r.lo
  have := r.hi
  refine drop_run (i.toNat - k.toNat) ra x k.toNat i.toNat (by omega) (by omega) (fun t h1 h2 => r.eq t (by omega) (by omega)) ?_
  rcases st with st | st
  · exact .inl (by omega)
  · exact .inr st
theorem drop_at {ra : List PySem.Str} {i : Int} (i0 : 0 ≤ i) (h : i < ra.length) : ra.drop i.toNat = ra.getD i.toNat Str.empty :: ra.drop (i + 1).toNat := by
  have c : i.toNat < ra.length := by omega
  rw [List.drop_eq_getElem_cons c]
  have : ra.getD i.toNat Str.empty = ra[i.toNat] := by simp [List.getD, c]
  rw [this, show (i + 1).toNat = i.toNat + 1 by omega]
theorem sldF_lt {x y : PySem.Str} {xs ys : List PySem.Str} (h : x.cps.toList < y.cps.toList) : sldF (x :: xs) (y :: ys) = (x :: (sldF (xs.dropWhile (· == x)) (y :: ys)).1, (sldF (xs.dropWhile (· == x)) (y :: ys)).2) := by
  rw [sldF, if_pos (show ltS x y from h)]
theorem sldF_gt {x y : PySem.Str} {xs ys : List PySem.Str} (h0 : ¬ x.cps.toList < y.cps.toList) (h : y.cps.toList < x.cps.toList) : sldF (x :: xs) (y :: ys) = ((sldF (x :: xs) (ys.dropWhile (· == y))).1, y :: (sldF (x :: xs) (ys.dropWhile (· == y))).2) := by
  rw [sldF, if_neg (show ¬ ltS x y from h0), if_pos (show ltS y x from h)]
theorem sldF_eq {x y : PySem.Str} {xs ys : List PySem.Str} (h0 : ¬ x.cps.toList < y.cps.toList) (h : ¬ y.cps.toList < x.cps.toList) : sldF (x :: xs) (y :: ys) = sldF (xs.dropWhile (· == x)) (ys.dropWhile (· == y)) := by
  rw [sldF, if_neg (show ¬ ltS x y from h0), if_neg (show ¬ ltS y x from h)]
theorem sldF_nil_l (ys : List PySem.Str) : sldF [] ys = ([], ys) := by rw [sldF]
theorem sldF_nil_r (xs : List PySem.Str) : sldF xs [] = (xs, []) := by
  cases xs with
  | nil => rw [sldF]
  | cons x xs => rw [sldF]; simp
section
variable {ra rb ms us : List PySem.Str} {i j i' j' : Int}
theorem inv_lt (I : SldInv ra rb i j ms us) (hi : i < ra.length) (hj : j < rb.length) (lt : (ra.getD i.toNat Str.empty).cps.toList < (rb.getD j.toNat Str.empty).cps.toList) (r : RunOk ra (ra.getD i.toNat Str.empty) (i + 1) i') (st : (ra.length : Int) ≤ i' ∨ ra.getD i'.toNat Str.empty ≠ ra.getD i.toNat Str.empty) :
    SldInv ra rb i' j (ms ++ [ra.getD i.toNat Str.empty]) us := by
  have i0 := I.i0
  have j0 := I.j0
  have lo := r.lo
  have d := run_drop (by omega) r st
  have hm := I.hm
  have hu := I.hu
  rw [drop_at i0 hi, drop_at j0 hj, sldF_lt lt, d] at hm hu
  refine ⟨by omega, r.hi, I.j0, I.j1, by have := I.lm; simp only [List.length_append, List.length_singleton]; omega, I.lu, ?_, ?_⟩
  · rw [drop_at j0 hj]; simpa using hm
  · rw [drop_at j0 hj]; simpa using hu
theorem inv_gt (I : SldInv ra rb i j ms us) (hi : i < ra.length) (hj : j < rb.length) (n1 : ¬ (ra.getD i.toNat Str.empty).cps.toList < (rb.getD j.toNat Str.empty).cps.toList) (gt : (rb.getD j.toNat Str.empty).cps.toList < (ra.getD i.toNat Str.empty).cps.toList) (r : RunOk rb (rb.getD j.toNat Str.empty) (j + 1) j') (st : (rb.length : Int) ≤ j' ∨ rb.getD j'.toNat Str.empty ≠ rb.getD j.toNat Str.empty) :
    SldInv ra rb i j' ms (us ++ [rb.getD j.toNat Str.empty]) := by
  have i0 := I.i0
  have j0 := I.j0
  have lo := r.lo
  have d := run_drop (by omega) r st
  have hm := I.hm
  have hu := I.hu
  rw [drop_at i0 hi, drop_at j0 hj, sldF_gt n1 gt, d] at hm hu
  refine ⟨I.i0, I.i1, by omega, r.hi, I.lm, by have := I.lu; simp only [List.length_append, List.length_singleton]; omega, ?_, ?_⟩
  · rw [drop_at i0 hi]; simpa using hm
  · rw [drop_at i0 hi]; simpa using hu
theorem inv_eq (I : SldInv ra rb i j ms us) (hi : i < ra.length) (hj : j < rb.length) (n1 : ¬ (ra.getD i.toNat Str.empty).cps.toList < (rb.getD j.toNat Str.empty).cps.toList) (n2 : ¬ (rb.getD j.toNat Str.empty).cps.toList < (ra.getD i.toNat Str.empty).cps.toList) (r : RunOk ra (ra.getD i.toNat Str.empty) (i + 1) i') (st : (ra.length : Int) ≤ i' ∨ ra.getD i'.toNat Str.empty ≠ ra.getD i.toNat Str.empty) (r' : RunOk rb (rb.getD j.toNat Str.empty) (j + 1) j') (st' : (rb.length : Int) ≤ j' ∨ rb.getD j'.toNat Str.empty ≠ rb.getD j.toNat Str.empty) :
    SldInv ra rb i' j' ms us := by
  have i0 := I.i0
  have j0 := I.j0
  have lo := r.lo
  have lo' := r'.lo
  have d := run_drop (by omega) r st
  have d' := run_drop (by omega) r' st'
  have hm := I.hm
  have hu := I.hu
  rw [drop_at i0 hi, drop_at j0 hj, sldF_eq n1 n2, d, d'] at hm hu
  exact ⟨by omega, r.hi, by omega, r'.hi, by have := I.lm; omega, by have := I.lu; omega, hm, hu⟩
theorem inv_done (I : SldInv ra rb i j ms us) (h : (ra.length : Int) ≤ i ∨ (rb.length : Int) ≤ j) : ms ++ ra.drop i.toNat = (sldF ra rb).1 ∧ us ++ rb.drop j.toNat = (sldF ra rb).2 := by
  have hm := I.hm
  have hu := I.hu
  rcases h with h | h
  · rw [List.drop_of_length_le (show ra.length ≤ i.toNat by omega), sldF_nil_l] at hm hu
    rw [List.drop_of_length_le (show ra.length ≤ i.toNat by omega)]
    exact ⟨hm, hu⟩
  · rw [List.drop_of_length_le (show rb.length ≤ j.toNat by omega), sldF_nil_r] at hm hu
    rw [List.drop_of_length_le (show rb.length ≤ j.toNat by omega)]
    exact ⟨hm, hu⟩
end

section
variable {prog : Program} {A : Around} {E : Value → Shared → Prop} {s : Shared} {h₀ : Heap} {L : Addr} {m : Str → Option Value} {news : List (Addr × Obj)}
theorem pick_from (l : List Value) (i : Int) (i0 : 0 ≤ i) (h : i ≤ l.length) : kms_pick l (some i) none = l.drop i.toNat := by
  unfold kms_pick
  have e1 : kms_lo (some i) l.length = i.toNat := by
    simp only [kms_lo]
    first | omega | (split <;> omega) | (simp; omega)
  have e2 : kms_hi none l.length = l.length := by
    first | rfl | simp [kms_hi]
  rw [e1, e2, List.take_of_length_le]
  rw [List.length_drop]; omega
theorem text_slice {value slice : PySem.Expr} {a : Addr} {va : List Value} {ra : List PySem.Str} {n : Nat} {i : Int} {t : Tok} {Q : Value → Shared → Prop} (F : Fr h₀ L s.heap m) (N : News h₀ L s.heap news) (hm : (a, W.listOf va.toArray n) ∈ news) (ia : StrsAre va ra) (hl : ra.length ≤ 2 ^ 20) (i0 : 0 ≤ i) (i1 : i ≤ ra.length)
    (h : ∀ D ws h', Fr h₀ L h' m → News h₀ L h' ((D, W.listOf ws.toArray 0) :: news) → (∀ p ∈ news, p.1 < D) → StrsAre ws (ra.drop i.toNat) → Q (.ref D) { s with heap := h' })
    (hs : subscripted slice false (.ref a) (.ref s.heap.objs.size) = operate [.ref s.heap.objs.size, .ref a] (getItem (.ref a) (.ref s.heap.objs.size))) (ht : ∀ r, letTemporaryGo value (.ref a) r = pure ()) :
    wpAny (model prog w) A (subscriptTail value slice (.ref a) (.ref s.heap.objs.size)) Q E { s with heap := s.heap.push { cls := .type "slice", data := .fields #[.int i t, .none, .none] } } := by
  have e := ia.length
  refine kms_slice_lit F N (News.isList N hm) (.int i t) .none (pick_from va i i0 (by omega)) (fun D h' F' N' l1 => h D _ h' F' N' l1 (ia.drop' _)) hs ht ?_
  rw [sizeLine_eq, List.size_toArray]; omega
theorem ext_texts {D b : Addr} {v1 v2 : List Value} {n n2 : Nat} {news' : Array Value → Nat → List (Addr × Obj)} {Q : Value → Shared → Prop} (F : Fr h₀ L s.heap m) (N : News h₀ L s.heap news) (hb : (b, W.listOf v2.toArray n2) ∈ news) (U : ∀ l n', Upd D (W.listOf v1.toArray n) (W.listOf l n') news (news' l n')) (hz : v1.length + v2.length ≤ 2 ^ 20)
    (h : ∀ h' n', Fr h₀ L h' m → News h₀ L h' (news' (v1 ++ v2).toArray n') → Q .none { s with heap := h' }) : wpAny (model prog w) A (call (.builtin "list.extend") [.ref D, .ref b]) Q E s := by
  have hd : ¬(!v1.toArray.isEmpty && Builtin.List.listTooLong (v1.toArray.size + v2.toArray.size)) = true := by
    have : Builtin.List.listTooLong (v1.toArray.size + v2.toArray.size) = false := by
      unfold Builtin.List.listTooLong
      simp only [List.size_toArray, decide_eq_false_iff_not]
      rw [sizeLine_eq]
      omega
    rw [this, Bool.and_false]; decide
  have z1 : v1.toArray.toList.length ≤ sizeLine := by rw [sizeLine_eq]; simp only [Array.length_toList, List.size_toArray]; omega
  have z2 : v1.toArray.size + v2.toArray.size ≤ sizeLine + 1 := by rw [sizeLine_eq]; simp only [List.size_toArray]; omega
  cases v2 with
  | nil =>
    refine kxn_extend F N hb rfl (U v1.toArray n) hd z1 z2 fun h' F' N' => h h' n F' ?_
    rw [List.append_nil]; exact N'
  | cons x xs =>
    exact kl_extend F N hb (l := v1 ++ x :: xs) (by simp) (by simp) (U (v1 ++ x :: xs).toArray (n + 1)) hd z1 z2 fun h' F' N' => h h' (n + 1) F' N'
end
/-- an IndexError under way in the callee's frame L', the caller's frame being L -/
def Ex (h₀ : Heap) (L L' : Addr) (m₀ : Str → Option Value) (s : Shared) (J : (Str → Option Value) → List (Addr × Obj) → Prop) (x : Value) (s₁ : Shared) : Prop :=
  ∃ (e : Addr) (m : Str → Option Value) (new : List (Addr × Obj)) (oL : Obj) (tk : Nat) (h₁ : Heap), x = .ref e ∧ s₁ = { s with heap := h₁, toks := tk } ∧ TI.Caller h₀ L m₀ oL ∧ (∀ p ∈ new, p.1 ≠ L) ∧ J m new ∧
    ((∃ h ctx, Fr h₀ L' h m ∧ News h₀ L' h (new ++ [(L, oL)]) ∧ NX h h₁ e ctx) ∨ (∃ T oT oe ctx, Fr h₀ L' h₁ m ∧ News h₀ L' h₁ ((T, oT) :: (e, oe) :: (new ++ [(L, oL)])) ∧ (∀ p ∈ (e, oe) :: (new ++ [(L, oL)]), p.1 ≠ T) ∧ Exc e T oe oT (rawInt L') ctx))
section
variable {A : Around} {E : Value → Shared → Prop} {Q : Flow → Shared → Prop} {s s' : Shared} {h₀ h : Heap} {L L' f e T : Addr} {m m₀ : Str → Option Value} {name : Str} {scope : Scope} {cd : Value} {oL oe oT : Obj} {fl ctx : Value} {env : Env} {new : List (Addr × Obj)} {J : (Str → Option Value) → List (Addr × Obj) → Prop} {b₀ : Stmt} {suite body : List Stmt} {np pos p : Pos}
theorem ex_passes (hfr : A.frames = some [env]) (hk : scope.kind = .function) (hef : env.frame = some L) (hek : env.scope.kind ≠ .module) : PassesOwn (model PG w) (A.deeper (envOf name scope L' f cd)) (envOf name scope L' f cd) (Ex h₀ L L' m₀ s J) := by
  rintro x s₁ ⟨e, m, new, oL, tk, h₁, rfl, rfl, C, hne, hJ, H⟩
  rcases H with ⟨h, ctx, F, N, X⟩ | ⟨T, oT, oe, ctx, F, N, ap, X⟩
  · refine fin_second (A := A) (Around.frames_deeper hfr) hk hef hek F N hne C X fun h' T oT oe oL' C' F' N' ap x' => ?_
    exact ⟨e, m, new, oL', tk, h', rfl, rfl, C', hne, hJ, .inr ⟨T, oT, oe, ctx, F', N', ap, x'⟩⟩
  · unfold notedBy
    refine note_again N X ?_
    unfold cameBackBy
    obtain ⟨vs, hd, h1, h2⟩ := X.flds
    refine wpAny_bind (wpAny_field (N _ (List.mem_cons_of_mem _ List.mem_cons_self)).1 hd h1 ?_)
    rw [if_neg (by simp)]
    exact flight (fr := some L') F N ap X fun h'' oT' F'' N'' x'' => ⟨e, m, new, oL, tk, h'', rfl, rfl, C, hne, hJ, .inr ⟨T, oT', oe, ctx, F'', N'', ap, x''⟩⟩
theorem try_ex (hfr : A.frames = some [env]) (hk : scope.kind = .function) (hef : env.frame = some L) (hek : env.scope.kind ≠ .module) (Tp : Top hd.view_39 (looseW hd.view_39 []) mean mg mb h₀)
    (hbody : wpAny (model PG w) (A.deeper (envOf name scope L' f cd)) (execs body (envOf name scope L' f cd)) (fun fl s₁ => match fl with | .next => wpAny (model PG w) (A.deeper (envOf name scope L' f cd)) (execs [] (envOf name scope L' f cd)) Q E s₁ | fl => Q fl s₁) (Ex h₀ L L' m₀ s J) s')
    (hhand : ∀ e m new oL h₁ tk, TI.Caller h₀ L m₀ oL → J m new → Fr h₀ L' h₁ m → News h₀ L' h₁ (new ++ [(L, oL)]) → wpAny (model PG w) ((A.deeper (envOf name scope L' f cd)).mark (some (.ref e))) (execs (b₀ :: suite) (envOf name scope L' f cd)) Q E { s with heap := h₁, toks := tk })
    (hxk : (envOf name scope L' f cd).kindOf (Str.ofString "IndexError") = some .globalImplicit)
    (hE : ∀ e, PassesOwnAt (model PG w) ((A.deeper (envOf name scope L' f cd)).mark (some (.ref e))) (A.deeper (envOf name scope L' f cd)) (envOf name scope L' f cd) E) :
    wpAny (model PG w) (A.deeper (envOf name scope L' f cd)) (exec (.Try body [.ExceptHandler (some (.Name (Str.ofString "IndexError") np)) none (b₀ :: suite) pos] [] [] p) (envOf name scope L' f cd)) Q E s' := by
  refine wpAny_Try_except (wpAny_mono hbody (fun _ _ x => x) fun x s₁ hx => ?_)
  obtain ⟨e, m, new, oL, tk, h₁, rfl, rfl, C, hne, hJ, H⟩ := hx
  rcases H with ⟨h, ctx, F, N, X⟩ | ⟨T, oT, oe, ctx, F, N, ap, X⟩
  · exact catch_new hfr hk hef hek F N hne C X Tp (fun h' oL' C' F' N' => hhand e m new oL' h' tk C' hJ F' N') hxk (hE e)
  · exact catch_held X F N ap Tp (fun h' F' N' => hhand e m new oL h' tk C hJ F' N') hk hxk (hE e)
theorem ex_new {h₁ : Heap} {tk : Nat} (C : TI.Caller h₀ L m₀ oL) (hne : ∀ p ∈ new, p.1 ≠ L) (F : Fr h₀ L' h m) (N : News h₀ L' h (new ++ [(L, oL)])) (X : NX h h₁ e ctx) (hJ : J m new) : Ex h₀ L L' m₀ s J (.ref e) { s with heap := h₁, toks := tk } :=
  ⟨e, m, new, oL, tk, h₁, rfl, rfl, C, hne, hJ, .inl ⟨h, ctx, F, N, X⟩⟩
theorem ex_held {h₁ : Heap} {tk : Nat} (C : TI.Caller h₀ L m₀ oL) (hne : ∀ p ∈ new, p.1 ≠ L) (F : Fr h₀ L' h₁ m) (N : News h₀ L' h₁ ((T, oT) :: (e, oe) :: (new ++ [(L, oL)]))) (ap : ∀ p ∈ (e, oe) :: (new ++ [(L, oL)]), p.1 ≠ T) (X : Exc e T oe oT (rawInt L') ctx) (hJ : J m new) : Ex h₀ L L' m₀ s J (.ref e) { s with heap := h₁, toks := tk } :=
  ⟨e, m, new, oL, tk, h₁, rfl, rfl, C, hne, hJ, .inr ⟨T, oT, oe, ctx, F, N, ap, X⟩⟩
end
/-- what stands when the loop breaks off -/
def SldJ (ra rb : List PySem.Str) (U M a b : Addr) (news : List (Addr × Obj)) (m : Str → Option Value) (new : List (Addr × Obj)) : Prop :=
  ∃ (i : Int) (ti : Tok) (j : Int) (tj : Tok) (vm : List Value) (nm : Nat) (vu : List Value) (nu : Nat) (ms us : List PySem.Str), (∀ p ∈ (U, W.listOf vu.toArray nu) :: (M, W.listOf vm.toArray nm) :: news, p ∈ new) ∧ StrsAre vm ms ∧ StrsAre vu us ∧ SldInv ra rb i j ms us ∧ ((ra.length : Int) ≤ i ∨ (rb.length : Int) ≤ j) ∧
    m (Str.ofString "i") = some (.int i ti) ∧ m (Str.ofString "j") = some (.int j tj) ∧ m (Str.ofString "expected") = some (.ref a) ∧ m (Str.ofString "actual") = some (.ref b) ∧ m (Str.ofString "missing") = some (.ref M) ∧ m (Str.ofString "unexpected") = some (.ref U)
theorem sldJ {ra rb : List PySem.Str} {U M a b : Addr} {news new : List (Addr × Obj)} {m : Str → Option Value} {i : Int} {ti : Tok} {j : Int} {tj : Tok} {vm : List Value} {nm : Nat} {vu : List Value} {nu : Nat} {ms us : List PySem.Str} (hs : ∀ p ∈ (U, W.listOf vu.toArray nu) :: (M, W.listOf vm.toArray nm) :: news, p ∈ new) (sm : StrsAre vm ms) (su : StrsAre vu us) (I : SldInv ra rb i j ms us) (off : (ra.length : Int) ≤ i ∨ (rb.length : Int) ≤ j)
    (k1 : m (Str.ofString "i") = some (.int i ti)) (k2 : m (Str.ofString "j") = some (.int j tj)) (k3 : m (Str.ofString "expected") = some (.ref a)) (k4 : m (Str.ofString "actual") = some (.ref b)) (k5 : m (Str.ofString "missing") = some (.ref M)) (k6 : m (Str.ofString "unexpected") = some (.ref U)) : SldJ ra rb U M a b news m new :=
  ⟨i, ti, j, tj, vm, nm, vu, nu, ms, us, hs, sm, su, I, off, k1, k2, k3, k4, k5, k6⟩
theorem sldJ_open {ra rb : List PySem.Str} {U M a b L L' : Addr} {oL : Obj} {h₀ h : Heap} {news new : List (Addr × Obj)} {m : Str → Option Value} (J : SldJ ra rb U M a b news m new) (F : Fr h₀ L' h m) (N : News h₀ L' h (new ++ [(L, oL)])) :
    ∃ (i : Int) (ti : Tok) (j : Int) (tj : Tok) (vm : List Value) (nm : Nat) (vu : List Value) (nu : Nat) (ms us : List PySem.Str), StrsAre vm ms ∧ StrsAre vu us ∧ SldInv ra rb i j ms us ∧ ((ra.length : Int) ≤ i ∨ (rb.length : Int) ≤ j) ∧
      Fr h₀ L' h (kstB m [(Str.ofString "i", .int i ti), (Str.ofString "j", .int j tj), (Str.ofString "expected", .ref a), (Str.ofString "actual", .ref b), (Str.ofString "missing", .ref M), (Str.ofString "unexpected", .ref U)]) ∧ News h₀ L' h ((U, W.listOf vu.toArray nu) :: (M, W.listOf vm.toArray nm) :: (news ++ [(L, oL)])) := by
  obtain ⟨i, ti, j, tj, vm, nm, vu, nu, ms, us, hs, sm, su, I, off, k1, k2, k3, k4, k5, k6⟩ := J
  refine ⟨i, ti, j, tj, vm, nm, vu, nu, ms, us, sm, su, I, off, ?_, fun p hp => ?_⟩
  · have em : kstB m [(Str.ofString "i", .int i ti), (Str.ofString "j", .int j tj), (Str.ofString "expected", .ref a), (Str.ofString "actual", .ref b), (Str.ofString "missing", .ref M), (Str.ofString "unexpected", .ref U)] = m := by
      funext z
      refine kstB_eq (fun p hp => ?_) (fun _ => rfl)
      simp only [List.mem_cons, List.not_mem_nil, or_false] at hp
      rcases hp with rfl | rfl | rfl | rfl | rfl | rfl <;> assumption
    rw [em]; exact F
  · rcases List.mem_append.mp (show p ∈ ((U, W.listOf vu.toArray nu) :: (M, W.listOf vm.toArray nm) :: news) ++ [(L, oL)] from hp) with h1 | h1
    · exact N p (List.mem_append_left _ (hs p h1))
    · exact N p (List.mem_append_right _ h1)

theorem ne_list {h₀ h : Heap} {L L' U : Addr} {m : Str → Option Value} {oL o : Obj} {all : List (Addr × Obj)} (N : News h₀ L' h all) (C : TI.Caller h₀ L m oL) (hL : (L, oL) ∈ all) (hU : (U, o) ∈ all) (ho : ∀ es ep, o.data ≠ .dict es ep) : U ≠ L := fun q => by
  subst q
  obtain ⟨es, ep, hd⟩ := C.dict
  have h1 := (N _ hU).1
  have h2 := (N _ hL).1
  have h1' : h.get? U = some o := h1
  have h2' : h.get? U = some oL := h2
  rw [h2'] at h1'
  injection h1' with h1'
  subst h1'
  exact ho es ep hd
theorem ne2 {h₀ h : Heap} {L L' U M : Addr} {m : Str → Option Value} {oL : Obj} {i1 i2 : Array Value} {n1 n2 : Nat} {news : List (Addr × Obj)} (N : News h₀ L' h ((U, W.listOf i1 n1) :: (M, W.listOf i2 n2) :: (news ++ [(L, oL)]))) (C : TI.Caller h₀ L m oL) (hne : ∀ p ∈ news, p.1 ≠ L) : ∀ p ∈ (U, W.listOf i1 n1) :: (M, W.listOf i2 n2) :: news, p.1 ≠ L := by
  have hL : (L, oL) ∈ (U, W.listOf i1 n1) :: (M, W.listOf i2 n2) :: (news ++ [(L, oL)]) := List.mem_cons_of_mem _ (List.mem_cons_of_mem _ (List.mem_append_right _ List.mem_cons_self))
  intro p hp
  rcases List.mem_cons.mp hp with rfl | hp
  · exact ne_list N C hL List.mem_cons_self (fun es ep q => by cases q)
  · rcases List.mem_cons.mp hp with rfl | hp
    · exact ne_list N C hL (List.mem_cons_of_mem _ List.mem_cons_self) (fun es ep q => by cases q)
    · exact hne p hp
theorem ne4 {h₀ h : Heap} {L L' U M T e : Addr} {m : Str → Option Value} {oL oT oe : Obj} {i1 i2 : Array Value} {n1 n2 : Nat} {news : List (Addr × Obj)} {fl ctx : Value} (N : News h₀ L' h ((T, oT) :: (e, oe) :: (U, W.listOf i1 n1) :: (M, W.listOf i2 n2) :: (news ++ [(L, oL)]))) (C : TI.Caller h₀ L m oL) (x : Exc e T oe oT fl ctx) (hne : ∀ p ∈ news, p.1 ≠ L) : ∀ p ∈ (T, oT) :: (e, oe) :: (U, W.listOf i1 n1) :: (M, W.listOf i2 n2) :: news, p.1 ≠ L := by
  have hL : (L, oL) ∈ (T, oT) :: (e, oe) :: (U, W.listOf i1 n1) :: (M, W.listOf i2 n2) :: (news ++ [(L, oL)]) := List.mem_cons_of_mem _ (List.mem_cons_of_mem _ (List.mem_cons_of_mem _ (List.mem_cons_of_mem _ (List.mem_append_right _ List.mem_cons_self))))
  intro p hp
  rcases List.mem_cons.mp hp with rfl | hp
  · obtain ⟨ts, hd, _⟩ := x.tb
    exact ne_list N C hL List.mem_cons_self (fun es ep q => by rw [hd] at q; cases q)
  · rcases List.mem_cons.mp hp with rfl | hp
    · obtain ⟨vs, hd, _⟩ := x.flds
      exact ne_list N C hL (List.mem_cons_of_mem _ List.mem_cons_self) (fun es ep q => by rw [hd] at q; cases q)
    · exact ne2 (fun p hp => N p (List.mem_cons_of_mem _ (List.mem_cons_of_mem _ hp))) C hne p hp
theorem st_r {P : Prop} {x y : PySem.Str} (h : (x == y) = false) : P ∨ x ≠ y := .inr fun e => by rw [e] at h; simp at h
theorem try_sld {A : Around} {E : Value → Shared → Prop} {Q : Flow → Shared → Prop} {s s' : Shared} {h₀ : Heap} {L L' f U M : Addr} {m₀ : Str → Option Value} {name : Str} {scope : Scope} {cd : Value} {env : Env} {led news : List (Addr × Obj)} {o1 o2 : Obj} {b₀ : Stmt} {suite body : List Stmt} {np pos p : Pos} (ra rb : List PySem.Str) (a b : Addr)
    (N : News h₀ L' s'.heap ((U, o1) :: (M, o2) :: led)) (hfr : A.frames = some [env]) (hk : scope.kind = .function) (hef : env.frame = some L) (hek : env.scope.kind ≠ .module) (Tp : Top hd.view_39 (looseW hd.view_39 []) mean mg mb h₀)
    (hbody : wpAny (model PG w) (A.deeper (envOf name scope L' f cd)) (execs body (envOf name scope L' f cd)) (fun fl s₁ => match fl with | .next => wpAny (model PG w) (A.deeper (envOf name scope L' f cd)) (execs [] (envOf name scope L' f cd)) Q E s₁ | fl => Q fl s₁) (Ex h₀ L L' m₀ s (SldJ ra rb U M a b news)) s')
    (hhand : ∀ e m new oL h₁ tk, TI.Caller h₀ L m₀ oL → SldJ ra rb U M a b news m new → Fr h₀ L' h₁ m → News h₀ L' h₁ (new ++ [(L, oL)]) → wpAny (model PG w) ((A.deeper (envOf name scope L' f cd)).mark (some (.ref e))) (execs (b₀ :: suite) (envOf name scope L' f cd)) Q E { s with heap := h₁, toks := tk })
    (hxk : (envOf name scope L' f cd).kindOf (Str.ofString "IndexError") = some .globalImplicit)
    (hE : ∀ e, PassesOwnAt (model PG w) ((A.deeper (envOf name scope L' f cd)).mark (some (.ref e))) (A.deeper (envOf name scope L' f cd)) (envOf name scope L' f cd) E) :
    wpAny (model PG w) (A.deeper (envOf name scope L' f cd)) (exec (.Try body [.ExceptHandler (some (.Name (Str.ofString "IndexError") np)) none (b₀ :: suite) pos] [] [] p) (envOf name scope L' f cd)) Q E s' :=
  try_ex hfr hk hef hek Tp hbody hhand hxk hE
theorem up_lt {M L : Addr} {oL : Obj} {news : List (Addr × Obj)} (h : ∀ p ∈ news ++ [(L, oL)], p.1 < M) (oL' : Obj) : ∀ p ∈ news ++ [(L, oL')], p.1 < M := fun p hp => by
  rcases List.mem_append.mp hp with h1 | h1
  · exact h p (List.mem_append_left _ h1)
  · rw [List.mem_singleton] at h1; subst h1
    exact h (L, oL) (List.mem_append_right _ List.mem_cons_self)
theorem up_lt2 {U M L : Addr} {oL : Obj} {news : List (Addr × Obj)} (h : M < U ∧ AllLt U (news ++ [(L, oL)])) (oL' : Obj) : M < U ∧ ∀ p ∈ news ++ [(L, oL')], p.1 < U := ⟨h.1, up_lt (kst_ltOf h.2) oL'⟩
section
variable {prog : Program} {A : Around} {E : Value → Shared → Prop} {s : Shared} {h₀ : Heap} {L : Addr} {m : Str → Option Value} {led : List (Addr × Obj)} {U M D D2 : Addr} {o o1 : Obj} {ws v1 : List Value} {n k : Nat} {Q : Value → Shared → Prop}
theorem ext_M (F : Fr h₀ L s.heap m) (N : News h₀ L s.heap ((D, W.listOf ws.toArray k) :: (U, o) :: (M, W.listOf v1.toArray n) :: led)) (lD : M < D) (lU : M < U) (hM : ∀ p ∈ led, p.1 < M) (hz : v1.length + ws.length ≤ 2 ^ 20)
    (h : ∀ h' n', Fr h₀ L h' m → News h₀ L h' ((D, W.listOf ws.toArray k) :: (U, o) :: (M, W.listOf (v1 ++ ws).toArray n') :: led) → Q .none { s with heap := h' }) : wpAny (model prog w) A (call (.builtin "list.extend") [.ref M, .ref D]) Q E s :=
  ext_texts (news' := fun l n' => (D, W.listOf ws.toArray k) :: (U, o) :: (M, W.listOf l n') :: led) F N List.mem_cons_self (fun l n' => .tail (Nat.ne_of_gt lD) (.tail (Nat.ne_of_gt lU) (.head fun p hp => Nat.ne_of_lt (hM p hp)))) hz h
theorem ext_U (F : Fr h₀ L s.heap m) (N : News h₀ L s.heap ((D2, W.listOf ws.toArray k) :: (D, o1) :: (U, W.listOf v1.toArray n) :: (M, o) :: led)) (lD2 : U < D2) (lD : U < D) (hU : M < U ∧ ∀ p ∈ led, p.1 < U) (hz : v1.length + ws.length ≤ 2 ^ 20)
    (h : ∀ h' n', Fr h₀ L h' m → News h₀ L h' ((D2, W.listOf ws.toArray k) :: (D, o1) :: (U, W.listOf (v1 ++ ws).toArray n') :: (M, o) :: led) → Q .none { s with heap := h' }) : wpAny (model prog w) A (call (.builtin "list.extend") [.ref U, .ref D2]) Q E s :=
  ext_texts (news' := fun l n' => (D2, W.listOf ws.toArray k) :: (D, o1) :: (U, W.listOf l n') :: (M, o) :: led) F N List.mem_cons_self (fun l n' => .tail (Nat.ne_of_gt lD2) (.tail (Nat.ne_of_gt lD) (.head fun p hp => by
    rcases List.mem_cons.mp hp with rfl | hp
    · exact Nat.ne_of_lt hU.1
    · exact Nat.ne_of_lt (hU.2 p hp)))) hz h
end
set_option hygiene false in
local macro_rules | `(tactic| walk_at "exec While Constant cons nil") => `(tactic| (k_here; (with_reducible show wpAny _ _ (exec (Stmt.While (PySem.Expr.Constant _ _ _) _ _ _) _) _ _ _); (k_dflt (refine sld_outer (ra := ra) (rb := rb) (by k_asm) (by k_asm) (by rfl) (by rfl) ?_ (by passes_own))); intro i ti j tj vm nm vu nu ms us u hh tkk sm su inv Fo No; (have i0 := inv.i0); (have i1 := inv.i1); (have j0 := inv.j0); (have j1 := inv.j1); (have lm := inv.lm); (have lu := inv.lu)))
set_option hygiene false in
local macro_rules | `(tactic| walk_at "mine own") => `(tactic| first | exact ex_passes hfr rfl hef hek | passes_own | with_unfolding_all passes_own)
set_option hygiene false in
local macro_rules | `(tactic| walk_at "exec While Compare cons nil") => `(tactic| (k_here; first
  | ((with_reducible show wpAny _ _ (exec (Stmt.While (PySem.Expr.Compare (PySem.Expr.Subscript (PySem.Expr.Name (Str.ofString "expected") _) _ _) _ _ _) _ _ _) _) _ _ _); k_dflt (refine run_while (ra := ra) (Str.ofString "i") (ra.getD i.toNat Str.empty) (by k_asm) (by k_asm) (by rfl) (by omega) (by omega) ?_ (by walk_at "mine own")); intro ii tii hii tkii rnI loI hiI Fi Ni)
  | ((with_reducible show wpAny _ _ (exec (Stmt.While (PySem.Expr.Compare (PySem.Expr.Subscript (PySem.Expr.Name (Str.ofString "actual") _) _ _) _ _ _) _ _ _) _) _ _ _); k_dflt (refine run_while (ra := rb) (Str.ofString "j") (rb.getD j.toNat Str.empty) (by k_asm) (by k_asm) (by rfl) (by omega) (by omega) ?_ (by walk_at "mine own")); intro jj tjj hjj tkjj rnJ loJ hiJ Fj Nj)))
set_option hygiene false in
local macro_rules | `(tactic| walk_at "mine mem") => `(tactic| first | exact List.mem_cons_of_mem _ (List.mem_cons_of_mem _ (List.mem_append_left _ (by assumption))) | exact List.mem_cons_of_mem _ (List.mem_cons_of_mem _ (List.mem_cons_of_mem _ (List.mem_append_left _ (by assumption)))) | exact List.mem_cons_of_mem _ (List.mem_cons_of_mem _ (List.mem_cons_of_mem _ (List.mem_cons_of_mem _ (List.mem_append_left _ (by assumption))))))
set_option hygiene false in
local macro_rules | `(tactic| walk_at "subscriptTail Name Name ref int") => `(tactic| (k_here; (with_reducible show wpAny _ _ (subscriptTail _ _ (Value.ref _) (Value.int _ _)) _ _ _); k_dflt (first
  | (refine text_or (by first | rfl | assumption) (by k_asm) (by walk_at "mine mem") (by assumption) (by omega) (by omega) (fun ho' hw' h' tk' e' x' => ?_) (fun hin' t' => ?_) (by omega))
  | (refine text_or_exc (by rfl) (by assumption) (by k_asm) (List.mem_cons_of_mem _ List.mem_cons_self) (by walk_at "mine mem") (by assumption) (by omega) (by omega) (fun ho' hw' h' tk' e' x' => ?_) (fun hin' t' => ?_) (by omega)))))
set_option hygiene false in
local macro_rules | `(tactic| walk_at "exec Try") => `(tactic| (k_here; (with_reducible show wpAny _ _ (exec (Stmt.Try _ (_ :: _) _ [] _) _) _ _ _); k_dflt (refine try_sld (s := s) (m₀ := m) (news := news) ra rb a b (by assumption) hfr rfl hef hek T ?_ (fun e9 m9 new9 oL9 h9 tk9 C9 J9 F9 N9 => ?_) rfl (by intro e9; first | passes_own | with_unfolding_all passes_own)); rotate_left; (obtain ⟨i, ti, j, tj, vm, nm, vu, nu, ms, us, sm, su, inv, off, F8, N8⟩ := sldJ_open J9 F9 N9; clear F9 N9 J9; (have hM9 := up_lt (by assumption) oL9); (have hU9 := up_lt2 (by assumption) oL9); (have i0 := inv.i0); (have i1 := inv.i1); (have j0 := inv.j0); (have j1 := inv.j1); (have lm := inv.lm); (have lu := inv.lu)); rotate_left))
set_option hygiene false in
local macro_rules | `(tactic| walk_at "noteFrame ref") => `(tactic| (k_here; k_dflt (refine fin_new (new := _ :: _ :: news) hfr rfl hef hek (by k_asm) (by assumption) (ne2 (by assumption) (by assumption) hne) (by assumption) (by assumption) ?_; intro h' T' oT' oe' oL' C' F' N' ap' nn' eL' x'; (try simp only [List.cons_append] at N' ap'))))
set_option hygiene false in
local macro_rules | `(tactic| walk_at "passOn") => `(tactic| (k_here; k_dflt (refine pass_on (by k_asm) (by assumption) (by assumption) (by assumption) ?_; intro h' oT2 F' N' x')))
set_option hygiene false in
local macro_rules | `(tactic| walk_at "notedBy") => `(tactic| (k_here; k_dflt (first
  | (refine fin_second (new := _ :: _ :: news) (Around.frames_deeper hfr) rfl hef hek (by k_asm) (by assumption) (ne2 (by assumption) (by assumption) hne) (by assumption) (by assumption) ?_; intro h' T' oT' oe' oL' C' F' N' ap' x'; (try simp only [List.cons_append] at N' ap'))
  | (refine fin_second (new := _ :: _ :: _ :: _ :: news) (Around.frames_deeper hfr) rfl hef hek (by k_asm) (by assumption) (ne4 (by assumption) (by assumption) (by assumption) hne) (by assumption) (by assumption) ?_; intro h' T' oT' oe' oL' C' F' N' ap' x'; (try simp only [List.cons_append] at N' ap')))))
set_option hygiene false in
local macro_rules | `(tactic| walk_at "subscriptTail Name Slice ref ref") => `(tactic| (k_here; (with_reducible show wpAny _ _ (subscriptTail _ (PySem.Expr.Slice _ _ none _) (Value.ref _) (Value.ref _)) _ _ _); (k_dflt (refine text_slice (by k_asm) (by k_asm) (by walk_at "mine mem") (by assumption) (by omega) (by omega) (by omega) ?_ (by with_unfolding_all rfl) (by intro _; with_unfolding_all rfl))); intro D' ws' h' F' N' l1' hS'; (have q1' := l1' _ List.mem_cons_self); (have q2' := l1' _ (List.mem_cons_of_mem _ List.mem_cons_self)); (dsimp only at q1' q2')))
set_option hygiene false in
local macro_rules | `(tactic| walk_at "call builtin:list.extend") => `(tactic| (k_here; (with_reducible show wpAny _ _ (call (Value.builtin _) [Value.ref _, Value.ref _]) _ _ _); (k_dflt (first | (refine ext_M (by k_asm) (by assumption) (by assumption) (hU9.1) hM9 (by have e1 := StrsAre.length sm; have e2 := StrsAre.length su; have e3 := StrsAre.length hS'; simp only [List.length_drop] at e3; omega) ?_) | (refine ext_U (by k_asm) (by assumption) (by assumption) (by assumption) hU9 (by have e1 := StrsAre.length sm; have e2 := StrsAre.length su; have e3 := StrsAre.length hS'; simp only [List.length_drop] at e3; omega) ?_))); intro h' n' F' N'))

theorem calm_P13_sld : True := by
  w_top off
  k_with_none
  trivial
abbrev tup2 (M U : Addr) : Obj := { cls := .type "tuple", data := .seq #[.ref M, .ref U] }
def SldOut (ra rb : List PySem.Str) (r : Value) (new : List (Addr × Obj)) : Prop :=
  ∃ (M U D : Addr) (vm vu : List Value) (nm nu : Nat), M < U ∧ U < D ∧ r = .ref D ∧ new = [(D, tup2 M U), (U, W.listOf vu.toArray nu), (M, W.listOf vm.toArray nm)] ∧ StrsAre vm (sldF ra rb).1 ∧ StrsAre vu (sldF ra rb).2
theorem sld_out {ra rb ms us : List PySem.Str} {news : List (Addr × Obj)} {h₀ h' : Heap} {L L' M U D x1 x2 : Addr} {p1 p2 : Addr × Obj} {m m' : Str → Option Value} {s s' : Shared} {Q : Value → Shared → Prop} {vm vu w1 w2 : List Value} {nm nu tk : Nat} {oL : Obj} {i j : Int} {R : Prop}
    (hret : ∀ (r : Value) (new : List (Addr × Obj)) (h' : Heap) (tk' : Nat), Fr h₀ L h' m → News h₀ L h' (new ++ news) → (∀ q ∈ new, ∀ p ∈ news, p.1 < q.1) → SldOut ra rb r new → Q r { s with heap := h', toks := tk' })
    (C : TI.Caller h₀ L m oL) (hne : ∀ p ∈ news, p.1 ≠ L) (F : Fr h₀ L' h' m') (N : News h₀ L' h' ((D, tup2 M U) :: p2 :: p1 :: (U, W.listOf (vu ++ w2).toArray nu) :: (M, W.listOf (vm ++ w1).toArray nm) :: (news ++ [(L, oL)])))
    (lD : x2 < D ∧ x1 < D ∧ U < D ∧ R) (hU : M < U ∧ ∀ p ∈ news ++ [(L, oL)], p.1 < U) (hM : ∀ p ∈ news ++ [(L, oL)], p.1 < M) (sm : StrsAre vm ms) (su : StrsAre vu us) (s1 : StrsAre w1 (ra.drop i.toNat)) (s2 : StrsAre w2 (rb.drop j.toNat)) (inv : SldInv ra rb i j ms us) (off : (ra.length : Int) ≤ i ∨ (rb.length : Int) ≤ j) :
    TI.LeaveI s' (Q (.ref D) { s with heap := h', toks := tk }) := by
  have dn := inv_done inv off
  have hLm : (L, oL) ∈ (D, tup2 M U) :: p2 :: p1 :: (U, W.listOf (vu ++ w2).toArray nu) :: (M, W.listOf (vm ++ w1).toArray nm) :: (news ++ [(L, oL)]) := by
    simp
  have hL := (N _ hLm).1
  have hLM : L < M := hM (L, oL) (List.mem_append_right _ List.mem_cons_self)
  have hLU : L < U := Nat.lt_trans hLM hU.1
  have hLD : L < D := Nat.lt_trans hLU lD.2.2.1
  show Q (.ref D) _
  refine hret _ [(D, tup2 M U), (U, W.listOf (vu ++ w2).toArray nu), (M, W.listOf (vm ++ w1).toArray nm)] h' tk ⟨C.ns h' oL.slots hL, F.keep, C.above⟩ (fun p hp => ?_) (fun q hq p hp => ?_) ⟨M, U, D, _, _, nm, nu, hU.1, lD.2.2.1, rfl, rfl, by rw [← dn.1]; exact sm.append' s1, by rw [← dn.2]; exact su.append' s2⟩
  · simp only [List.cons_append, List.nil_append, List.mem_cons] at hp
    rcases hp with rfl | rfl | rfl | hp
    · have := N (D, tup2 M U) List.mem_cons_self
      exact ⟨this.1, Nat.ne_of_gt hLD, this.2.2⟩
    · have := N (U, W.listOf (vu ++ w2).toArray nu) (by simp)
      exact ⟨this.1, Nat.ne_of_gt hLU, this.2.2⟩
    · have := N (M, W.listOf (vm ++ w1).toArray nm) (by simp)
      exact ⟨this.1, Nat.ne_of_gt hLM, this.2.2⟩
    · have := N p (by simp [hp])
      exact ⟨this.1, hne p hp, this.2.2⟩
  · have h1 := hM p (List.mem_append_left _ hp)
    have h2 := Nat.lt_trans h1 hU.1
    have h3 := Nat.lt_trans h2 lD.2.2.1
    simp only [List.mem_cons, List.not_mem_nil, or_false] at hq
    rcases hq with rfl | rfl | rfl
    · exact h3
    · exact h2
    · exact h1
set_option hygiene false in
local macro_rules | `(tactic| walk_at "mine same") => `(tactic| (intro z h1 h2 h3 h4; simp [kstB, ssSt, h1, h2, h3, h4]))
set_option hygiene false in
local macro_rules | `(tactic| walk_at "mine less") => `(tactic| (simp only [ssM]; omega))
set_option hygiene false in
local macro_rules | `(tactic| walk_at "mine run") => `(tactic| exact run_end (by assumption) (by omega) (by assumption) (eq_of_beq (by assumption)) rfl (by assumption) (by assumption) (by rfl) (by intro z hz; simp [kstB, hz]))
set_option hygiene false in
local macro_rules | `(tactic| walk_at "mine turn") => `(tactic| ((rename News _ _ _ _ => nE'); (try simp only [List.push_toArray] at nE'); first
  | exact sld_end (by assumption) nE' (by rfl) (by rfl) (by walk_at "mine same") (kct_snoc sm) su (inv_lt inv (by assumption) (by assumption) (by assumption) rnI (st_r (by assumption))) (by walk_at "mine less")
  | exact sld_end (by assumption) nE' (by rfl) (by rfl) (by walk_at "mine same") sm (kct_snoc su) (inv_gt inv (by assumption) (by assumption) (by assumption) (by assumption) rnJ (st_r (by assumption))) (by walk_at "mine less")
  | exact sld_end (by assumption) nE' (by rfl) (by rfl) (by walk_at "mine same") sm su (inv_eq inv (by assumption) (by assumption) (by assumption) (by assumption) rnI (st_r (by assumption)) rnJ (st_r (by assumption))) (by walk_at "mine less")))
set_option hygiene false in
local macro_rules | `(tactic| walk_at "mine flies") => `(tactic| ((rename News _ _ _ _ => nE'); (try simp only [List.push_toArray] at nE'); first
  | exact ex_new (new := _ :: _ :: news) (by assumption) (ne2 nE' (by assumption) hne) (by assumption) nE' (by assumption) (sldJ (fun _ h => h) sm su inv (.inl (by assumption)) (by rfl) (by rfl) (by rfl) (by rfl) (by rfl) (by rfl))
  | exact ex_new (new := _ :: _ :: news) (by assumption) (ne2 nE' (by assumption) hne) (by assumption) nE' (by assumption) (sldJ (fun _ h => h) sm su inv (.inr (by assumption)) (by rfl) (by rfl) (by rfl) (by rfl) (by rfl) (by rfl))
  | exact ex_new (new := _ :: _ :: news) (by assumption) (ne2 nE' (by assumption) hne) (by assumption) nE' (by assumption) (sldJ (fun _ h => h) (kct_snoc sm) su (inv_lt inv (by assumption) (by assumption) (by assumption) rnI (.inl (by assumption))) (.inl (by assumption)) (by rfl) (by rfl) (by rfl) (by rfl) (by rfl) (by rfl))
  | exact ex_new (new := _ :: _ :: news) (by assumption) (ne2 nE' (by assumption) hne) (by assumption) nE' (by assumption) (sldJ (fun _ h => h) sm (kct_snoc su) (inv_gt inv (by assumption) (by assumption) (by assumption) (by assumption) rnJ (.inl (by assumption))) (.inr (by assumption)) (by rfl) (by rfl) (by rfl) (by rfl) (by rfl) (by rfl))
  | exact ex_held (new := _ :: _ :: news) (by assumption) (ne2 (fun p hp => nE' p (List.mem_cons_of_mem _ (List.mem_cons_of_mem _ hp))) (by assumption) hne) (by assumption) nE' (by assumption) (by assumption) (sldJ (fun _ h => h) sm su (inv_eq inv (by assumption) (by assumption) (by assumption) (by assumption) rnI (.inl (by assumption)) rnJ (st_r (by assumption))) (.inl (by assumption)) (by rfl) (by rfl) (by rfl) (by rfl) (by rfl) (by rfl))
  | exact ex_held (new := _ :: _ :: news) (by assumption) (ne2 (fun p hp => nE' p (List.mem_cons_of_mem _ (List.mem_cons_of_mem _ hp))) (by assumption) hne) (by assumption) nE' (by assumption) (by assumption) (sldJ (fun _ h => h) sm su (inv_eq inv (by assumption) (by assumption) (by assumption) (by assumption) rnI (st_r (by assumption)) rnJ (.inl (by assumption))) (.inr (by assumption)) (by rfl) (by rfl) (by rfl) (by rfl) (by rfl) (by rfl))
  | exact ex_held (new := _ :: _ :: _ :: _ :: news) (by assumption) (ne4 (fun p hp => nE' p (List.mem_cons_of_mem _ (List.mem_cons_of_mem _ hp))) (by assumption) (by assumption) hne) (by assumption) nE' (by assumption) (by assumption) (sldJ (fun _ h => List.mem_cons_of_mem _ (List.mem_cons_of_mem _ h)) sm su (inv_eq inv (by assumption) (by assumption) (by assumption) (by assumption) rnI (.inl (by assumption)) rnJ (.inl (by assumption))) (.inl (by assumption)) (by rfl) (by rfl) (by rfl) (by rfl) (by rfl) (by rfl))))
set_option maxHeartbeats 4000000 in
theorem sld (news : List (Addr × Obj)) (a b : Addr) (va vb : List Value) (ra rb : List PySem.Str) (na nb : Nat) (ha : (a, W.listOf va.toArray na) ∈ news) (hb : (b, W.listOf vb.toArray nb) ∈ news) (ia : StrsAre va ra) (ib : StrsAre vb rb) (la : ra.length ≤ 13) (lb : rb.length ≤ 13) :
    TellT w mean mg mb 21 1 news [.ref a, .ref b] (SldOut ra rb) := by
  unfold TellT
  k_fill
  intro A env h₀ L m s Q E hfr hA hef hek F X N T hd hu hret
  refine wpAny_call ?_
  refine enter_try F X N T (by k_is) (by k_is) (by omega) (by first | exact BindsTo.of_eq rfl | exact binds_K (by k_in) rfl (by k_is) rfl rfl rfl) (locs rfl) ?_
  intro oL h₁ L' C hne hlt F N
  dsimp only
  k_steps
  all_goals try (walk_at "mine run")
  all_goals try (walk_at "mine turn")
  all_goals try (walk_at "mine flies")
  all_goals try (exact sld_out hret (by assumption) hne (by assumption) (by assumption) (by assumption) (by assumption) (by assumption) sm su (by assumption) (by assumption) inv (by assumption))

end
theorem calm_P01_leaf : True := by
  w_top off
  k_with_none
  trivial
theorem bor32 {x : Int} (h0 : 0 ≤ x) (h1 : x < 128) : 0 ≤ Builtin.bitOr x 32 ∧ Builtin.bitOr x 32 < 128 := by
  have key : ∀ i : Fin 128, 0 ≤ Builtin.bitOr ((i.val : Nat) : Int) 32 ∧ Builtin.bitOr ((i.val : Nat) : Int) 32 < 128 := by decide +kernel
  have := key ⟨x.toNat, by omega⟩
  simpa [Int.toNat_of_nonneg h0] using this
theorem ctoi_int (news : List (Addr × Obj)) (n : Int) (t : Tok) : Tell w mean mg mb 35 1 news [.int n t] (OutV fun r => r = .int n t) := by
  walk_at "mine start"
  k_steps
  all_goals walk_at "mine end"
set_option hygiene false in
local macro_rules | `(tactic| walk_at "call ref") => `(tactic| (k_here; k_dflt (refine' Tell.use ?k1 ?k2 ?k3 ?k4 ?k5 (ctoi_int _ _ _) ?k6 ?kd ?ku ?_; walk_at "mine pure"; subst hO9; (try dsimp only); (try k_fold))))
theorem isprint_int (news : List (Addr × Obj)) (n : Int) (t : Tok) : Tell w mean mg mb 42 2 news [.int n t] (OutV fun r => r = .bool (decide (32 ≤ n) && decide (n ≤ 126))) := by
  walk_at "mine start"
  k_steps
  all_goals exact hret _ [] _ _ (by assumption) (by assumption) (fun _ h => nomatch h) ⟨rfl, by first | (simp_all; done) | (simp_all; omega)⟩
set_option hygiene false in
local macro_rules | `(tactic| walk_at "call ref") => `(tactic| (k_here; k_dflt (refine' Tell.use ?k1 ?k2 ?k3 ?k4 ?k5 (isprint_int _ _ _) ?k6 ?kd ?ku ?_; walk_at "mine pure"; subst hO9; (try dsimp only); (try k_fold))))
def repF (n : Int) : List Nat := if n = 127 then [94, 63] else if 32 ≤ n % 128 ∧ n % 128 ≤ 126 then [(n % 128).toNat] else [94, (Builtin.bitOr (n % 128) 32 + 32).toNat]
def uncF (n : Int) : List Nat := if Builtin.bitAnd n 128 = 0 then repF n else 33 :: repF n
section
variable {n : Int}
theorem sof1 : Str.ofString "!" = ⟨#[33]⟩ := by decide +kernel
theorem sof2 : Str.ofString "^" = ⟨#[94]⟩ := by decide +kernel
theorem sof3 : Str.ofString "^?" = ⟨#[94, 63]⟩ := by decide +kernel
theorem unc_1 (h : n = 127) (hb : Builtin.bitAnd n 128 ≠ 0) : Str.ofString "!" ++ Str.ofString "^?" = ⟨(uncF n).toArray⟩ := by subst h; exact absurd (by decide +kernel) hb
theorem unc_2 (h : n = 127) (hb : Builtin.bitAnd n 128 = 0) : Str.ofString "^?" = ⟨(uncF n).toArray⟩ := by subst h; decide +kernel
theorem unc_3 (h : n ≠ 127) (hp : (decide (32 ≤ Builtin.bitAnd n 127) && decide (Builtin.bitAnd n 127 ≤ 126)) = true) (hb : Builtin.bitAnd n 128 ≠ 0) : Str.ofString "!" ++ ⟨#[(Builtin.bitAnd n 127).toNat]⟩ = ⟨(uncF n).toArray⟩ := by
  rw [bitAnd_m7] at hp ⊢; exact Str.ext' (by simp_all [sof1, uncF, repF, Str.cps_append])
theorem unc_4 (h : n ≠ 127) (hp : (decide (32 ≤ Builtin.bitAnd n 127) && decide (Builtin.bitAnd n 127 ≤ 126)) = true) (hb : Builtin.bitAnd n 128 = 0) : (⟨#[(Builtin.bitAnd n 127).toNat]⟩ : Str) = ⟨(uncF n).toArray⟩ := by
  rw [bitAnd_m7] at hp ⊢; exact Str.ext' (by simp_all [uncF, repF])
theorem unc_5 (h : n ≠ 127) (hp : (decide (32 ≤ Builtin.bitAnd n 127) && decide (Builtin.bitAnd n 127 ≤ 126)) = false) (hb : Builtin.bitAnd n 128 ≠ 0) : Str.ofString "!" ++ (Str.ofString "^" ++ ⟨#[(Builtin.bitOr (Builtin.bitAnd n 127) 32 + 32).toNat]⟩) = ⟨(uncF n).toArray⟩ := by
  rw [bitAnd_m7] at hp ⊢
  have hp' : ¬ (32 ≤ n % 128 ∧ n % 128 ≤ 126) := by intro q; simp [q.1, q.2] at hp
  exact Str.ext' (by simp [sof1, sof2, uncF, repF, Str.cps_append, h, hb, if_neg hp'])
theorem unc_6 (h : n ≠ 127) (hp : (decide (32 ≤ Builtin.bitAnd n 127) && decide (Builtin.bitAnd n 127 ≤ 126)) = false) (hb : Builtin.bitAnd n 128 = 0) : Str.ofString "^" ++ ⟨#[(Builtin.bitOr (Builtin.bitAnd n 127) 32 + 32).toNat]⟩ = ⟨(uncF n).toArray⟩ := by
  rw [bitAnd_m7] at hp ⊢
  have hp' : ¬ (32 ≤ n % 128 ∧ n % 128 ≤ 126) := by intro q; simp [q.1, q.2] at hp
  exact Str.ext' (by simp [sof2, uncF, repF, Str.cps_append, h, hb, if_neg hp'])
end
theorem unctrl_int (news : List (Addr × Obj)) (n : Int) (t : Tok) (h0 : 0 ≤ n) (h1 : n < 384) : Tell w mean mg mb 63 3 news [.int n t] (OutV fun r => ∃ u, r = .str ⟨(uncF n).toArray⟩ u) := by
  have hb7 := bitAnd_m7 n
  have hb32 := bor32 (x := Builtin.bitAnd n 127) (by omega) (by omega)
  walk_at "mine start"
  k_steps
  all_goals (refine hret _ [] _ _ (by assumption) (by assumption) (fun _ h => nomatch h) ⟨rfl, _, congrArg (Value.str · _) ?_⟩)
  · exact unc_1 (by assumption) (by assumption)
  · exact unc_2 (by assumption) (by assumption)
  · exact unc_3 (by assumption) (by assumption) (by assumption)
  · exact unc_4 (by assumption) (by assumption) (by assumption)
  · exact unc_5 (by assumption) (by assumption) (by assumption)
  · exact unc_6 (by assumption) (by assumption) (by assumption)
set_option hygiene false in
local macro_rules | `(tactic| walk_at "call ref") => `(tactic| (k_here; k_dflt (refine' Tell.use ?k1 ?k2 ?k3 ?k4 ?k5 (unctrl_int _ _ _ ?h0 ?h1) ?k6 ?kd ?ku ?_; (case h0 => l_fact); (case h1 => l_fact); walk_at "mine pure"; obtain ⟨u9, hO9⟩ := hO9; subst hO9; (try dsimp only); (try k_fold))))

theorem calm_P02_leafb : True := by
  w_top off
  k_with_none
  trivial
def rankB (n : Int) : Int := if n = 127 then 63 else if n % 128 = 127 then 96 else if n % 128 < 32 then 64 + n % 128 else if n % 128 < 95 then n % 128 - 32 else n % 128 + 2
def rankF (n : Int) : Int := if n % 256 > 127 then 2 + rankB n else if rankB n < 2 then rankB n else 129 + rankB n
def sgnF (n : Int) : Int := if n = 0 then 0 else if n > 0 then 1 else -1
theorem sign_int (news : List (Addr × Obj)) (n : Int) (t : Tok) : Tell w mean mg mb 84 1 news [.int n t] (OutV fun r => ∃ u, r = .int (sgnF n) u) := by
  walk_at "mine start"
  k_steps
  all_goals exact hret _ [] _ _ (by assumption) (by assumption) (fun _ h => nomatch h) ⟨rfl, _, congrArg (Value.int · _) (by simp_all [sgnF])⟩
theorem rb_b {n : Int} (h : n ≠ 127) (h1 : n.fmod 128 = 127) : rankB n = 96 := by
  rw [Int.fmod_eq_emod_of_nonneg _ (by decide)] at h1
  rw [rankB, if_neg h, if_pos h1]
theorem rb_c {n : Int} (h : n ≠ 127) (h1 : n.fmod 128 ≠ 127) (h2 : n.fmod 128 < 32) : rankB n = 64 + n.fmod 128 := by
  rw [Int.fmod_eq_emod_of_nonneg _ (by decide)] at h1 h2 ⊢
  rw [rankB, if_neg h, if_neg h1, if_pos h2]
theorem rb_d {n : Int} (h : n ≠ 127) (h1 : n.fmod 128 ≠ 127) (h2 : ¬ n.fmod 128 < 32) (h3 : n.fmod 128 < 95) : rankB n = n.fmod 128 - 32 := by
  rw [Int.fmod_eq_emod_of_nonneg _ (by decide)] at h1 h2 h3 ⊢
  rw [rankB, if_neg h, if_neg h1, if_neg h2, if_pos h3]
theorem rb_e {n : Int} (h : n ≠ 127) (h1 : n.fmod 128 ≠ 127) (h2 : ¬ n.fmod 128 < 32) (h3 : ¬ n.fmod 128 < 95) : rankB n = n.fmod 128 + 2 := by
  rw [Int.fmod_eq_emod_of_nonneg _ (by decide)] at h1 h2 h3 ⊢
  rw [rankB, if_neg h, if_neg h1, if_neg h2, if_neg h3]
theorem rk_hi {n v : Int} (hb : rankB n = v) (h : 127 < n.fmod 256) : 2 + v = rankF n := by
  rw [Int.fmod_eq_emod_of_nonneg _ (by decide)] at h
  rw [rankF, if_pos h, hb]
theorem rk_lo {n v : Int} (hb : rankB n = v) (h : ¬ 127 < n.fmod 256) (h2 : v < 2) : v = rankF n := by
  rw [Int.fmod_eq_emod_of_nonneg _ (by decide)] at h
  rw [rankF, if_neg h, hb, if_pos h2]
theorem rk_mid {n v : Int} (hb : rankB n = v) (h : ¬ 127 < n.fmod 256) (h2 : ¬ v < 2) : 129 + v = rankF n := by
  rw [Int.fmod_eq_emod_of_nonneg _ (by decide)] at h
  rw [rankF, if_neg h, hb, if_neg h2]
theorem rk_1 {n : Int} (h : n = 127) : 129 + 63 = rankF n := by subst h; decide
theorem rk_5 {n : Int} (h : n ≠ 127) (h1 : n.fmod 128 ≠ 127) (h2 : n.fmod 128 < 32) (h3 : ¬ 127 < n.fmod 256) : 129 + (64 + n.fmod 128) = rankF n :=
  rk_mid (rb_c h h1 h2) h3 (by have := Int.fmod_nonneg_of_pos n (show (0 : Int) < 128 by decide); omega)
theorem rk_e2 {x : Int} (h : ¬ x < 95) : ¬ x + 2 < 2 := by omega
theorem rank_int (news : List (Addr × Obj)) (n : Int) (t : Tok) : Tell w mean mg mb 77 1 news [.int n t] (OutV fun r => ∃ u, r = .int (rankF n) u) := by
  walk_at "mine start"
  k_steps
  all_goals (refine hret _ [] _ _ (by assumption) (by assumption) (fun _ h => nomatch h) ⟨rfl, _, congrArg (Value.int · _) ?_⟩)
  all_goals first
    | exact rk_1 (by assumption)
    | exact rk_hi (rb_b (by assumption) (by assumption)) (by assumption)
    | exact rk_mid (rb_b (by assumption) (by assumption)) (by assumption) (by decide)
    | exact rk_hi (rb_c (by assumption) (by assumption) (by assumption)) (by assumption)
    | exact rk_5 (by assumption) (by assumption) (by assumption) (by assumption)
    | exact rk_hi (rb_d (by assumption) (by assumption) (by assumption) (by assumption)) (by assumption)
    | exact rk_lo (rb_d (by assumption) (by assumption) (by assumption) (by assumption)) (by assumption) (by assumption)
    | exact rk_mid (rb_d (by assumption) (by assumption) (by assumption) (by assumption)) (by assumption) (by assumption)
    | exact rk_hi (rb_e (by assumption) (by assumption) (by assumption) (by assumption)) (by assumption)
    | exact rk_mid (rb_e (by assumption) (by assumption) (by assumption) (by assumption)) (by assumption) (fun q => absurd q (rk_e2 (by assumption)))
def cmpF (x y : List Nat) : Int := b2i (decide (y < x)) - b2i (decide (x < y))
theorem cmp_str (news : List (Addr × Obj)) (x y : Str) (t u : Tok) : Tell w mean mg mb 28 1 news [.str x t, .str y u] (OutV fun r => ∃ u, r = .int (cmpF x.cps.toList y.cps.toList) u) := by
  walk_at "mine start"
  k_steps
  all_goals exact hret _ [] _ _ (by assumption) (by assumption) (fun _ h => nomatch h) ⟨rfl, _, rfl⟩
set_option hygiene false in
local macro_rules | `(tactic| walk_at "mine use1") => `(tactic| (walk_at "mine pure"; obtain ⟨u9, hO9⟩ := hO9; subst hO9; (try dsimp only); (try k_fold)))
local macro_rules | `(tactic| walk_at "call ref") => `(tactic| (k_here; k_dflt (first
  | (refine' Tell.use ?k1 ?k2 ?k3 ?k4 ?k5 (rank_int _ _ _) ?k6 ?kd ?ku ?_; walk_at "mine use1")
  | (refine' Tell.use ?k1 ?k2 ?k3 ?k4 ?k5 (sign_int _ _ _) ?k6 ?kd ?ku ?_; walk_at "mine use1")
  | (refine' Tell.use ?k1 ?k2 ?k3 ?k4 ?k5 (cmp_str _ _ _ _ _) ?k6 ?kd ?ku ?_; walk_at "mine use1"))))

section
variable {prog : Program} {A : Around} {E : Value → Shared → Prop} {s : Shared} {Q : Value → Shared → Prop} {value slice : PySem.Expr} {h₀ : Heap} {L a : Addr} {news : List (Addr × Obj)} {va : List Value} {ra : List Int} {n : Nat}
theorem len_row (N : News h₀ L s.heap news) (hm : (a, W.listOf va.toArray n) ∈ news) (ia : IntsAre va ra) (hl : ra.length ≤ 2 ^ 20)
    (h : Q (.int ra.length (s.toks + 1)) { s with toks := s.toks + 1 + 1 }) : wpAny (model prog w) A (call (.builtin "len") [.ref a]) Q E s := by
  have e : va.toArray.size = ra.length := by simp [ia.length]
  refine len_list (News.isList N hm) (by rw [e]; omega) ?_
  rw [e]; exact h
theorem item_row {k : Int} {u : Tok} (N : News h₀ L s.heap news) (hm : (a, W.listOf va.toArray n) ∈ news) (ia : IntsAre va ra) (h0 : 0 ≤ k) (h1 : k < ra.length) (hl : ra.length ≤ 2 ^ 20)
    (h : ∀ t, Q (.int (ra.getD k.toNat 0) t) s) (hs : subscripted slice false (.ref a) (.int k u) = operate [.ref a, .int k u] (getItem (.ref a) (.int k u)) := by with_unfolding_all rfl)
    (hg : ∀ r, letTemporaryGo value (.ref a) r = pure () := by intro _; with_unfolding_all rfl) : wpAny (model prog w) A (subscriptTail value slice (.ref a) (.int k u)) Q E s := by
  have hlen := ia.length
  have hk : k.toNat < va.length := by omega
  obtain ⟨k', t, e, e'⟩ := IntsAre.at ia k.toNat (va[k.toNat]) (by simp [hk])
  have : ra.getD k.toNat 0 = k' := by simp [List.getD_eq_getElem?_getD, e']
  refine item_list (News.isList N hm) h0 (by omega) (x := .int k' t) (by simp [hk, ← e]) (this ▸ h t) hs hg
end
local macro_rules | `(tactic| walk_at "call builtin:len") => `(tactic| (k_here; (with_reducible show wpAny _ _ (call (Value.builtin "len") [Value.ref _]) _ _ _); k_dflt (refine len_row (by k_asm) (by first | assumption | k_mem) (by assumption) (by omega) ?_)))
local macro_rules | `(tactic| walk_at "subscriptTail Name Name ref int") => `(tactic| (k_here; (with_reducible show wpAny _ _ (subscriptTail _ _ (Value.ref _) (Value.int _ _)) _ _ _); k_dflt (refine item_row (by k_asm) (by first | assumption | k_mem) (by assumption) (by omega) (by omega) (by omega) ?_); intro ti'))

section
theorem calm_P07_rsign : True := by
  w_top off
  k_with_none
  trivial
def rsF : List Int → List Int → Int
  | x :: xs, y :: ys => if rankF x ≠ rankF y then sgnF (rankF x - rankF y) else rsF xs ys
  | [], ys => sgnF (0 - (ys.length : Int))
  | xs, [] => sgnF ((xs.length : Int) - 0)
def RsOk (ra rb : List Int) (pre : List Int) : Prop := ∀ j, j < pre.length → rankF (ra.getD j 0) = rankF (rb.getD j 0)
theorem rsOk_0 {ra rb : List Int} : RsOk ra rb [] := fun j h => absurd h (Nat.not_lt_zero j)
theorem rsOk_1 {ra rb pre : List Int} {k : Int} (h : RsOk ra rb pre) (e : k = 0 + (pre.length : Int)) (q : rankF (ra.getD k.toNat 0) = rankF (rb.getD k.toNat 0)) : RsOk ra rb (pre ++ [k]) := by
  intro j hj
  simp only [List.length_append, List.length_singleton] at hj
  by_cases c : j < pre.length
  · exact h j c
  · have : k.toNat = j := by omega
    rw [← this]; exact q
theorem rs_a : ∀ (ra rb : List Int) (j : Nat), (∀ i, i < j → rankF (ra.getD i 0) = rankF (rb.getD i 0)) → j < ra.length → j < rb.length → rankF (ra.getD j 0) ≠ rankF (rb.getD j 0) → sgnF (rankF (ra.getD j 0) - rankF (rb.getD j 0)) = rsF ra rb
  | x :: xs, y :: ys, 0, _, _, _, q => by
    simp only [List.getD_cons_zero] at q ⊢
    simp only [rsF, if_pos q]
  | x :: xs, y :: ys, j + 1, h, h1, h2, q => by
    have q0 := h 0 (Nat.succ_pos j)
    simp only [List.getD_cons_zero] at q0
    simp only [List.getD_cons_succ] at q ⊢
    have r := rs_a xs ys j (fun i hi => by simpa only [List.getD_cons_succ] using h (i + 1) (Nat.succ_lt_succ hi)) (Nat.lt_of_succ_lt_succ h1) (Nat.lt_of_succ_lt_succ h2) q
    rw [r]
    simp only [rsF, ne_eq, q0, not_true_eq_false, if_false]
  | [], _, _, _, h1, _, _ => absurd h1 (Nat.not_lt_zero _)
  | _ :: _, [], _, _, _, h2, _ => absurd h2 (Nat.not_lt_zero _)
theorem rs_b : ∀ (ra rb : List Int), (∀ i, i < min ra.length rb.length → rankF (ra.getD i 0) = rankF (rb.getD i 0)) → sgnF ((ra.length : Int) - (rb.length : Int)) = rsF ra rb
  | [], ys, _ => by simp [rsF]
  | x :: xs, [], _ => by simp [rsF]
  | x :: xs, y :: ys, h => by
    have q0 := h 0 (by simp only [List.length_cons]; omega)
    simp only [List.getD_cons_zero] at q0
    have r := rs_b xs ys (fun i hi => by simpa only [List.getD_cons_succ] using h (i + 1) (by simp only [List.length_cons]; omega))
    simp only [rsF, ne_eq, q0, not_true_eq_false, if_false, ← r, List.length_cons]
    congr 1
    omega
theorem rs_end1 {ra rb pre : List Int} {k : Int} (h : RsOk ra rb pre) (e : k = 0 + (pre.length : Int)) (hl : pre.length < ((if (rb.length : Int) < (ra.length : Int) then (rb.length : Int) else (ra.length : Int)) - 0).toNat)
    (q : rankF (ra.getD k.toNat 0) ≠ rankF (rb.getD k.toNat 0)) : sgnF (rankF (ra.getD k.toNat 0) - rankF (rb.getD k.toNat 0)) = rsF ra rb := by
  have ek : k.toNat = pre.length := by omega
  rw [ek] at q ⊢
  exact rs_a ra rb _ h (by split at hl <;> omega) (by split at hl <;> omega) q
theorem rs_end2 {ra rb : List Int} (h : RsOk ra rb (rangeKs 0 ((if (rb.length : Int) < (ra.length : Int) then (rb.length : Int) else (ra.length : Int)) - 0).toNat)) : sgnF ((ra.length : Int) - (rb.length : Int)) = rsF ra rb := by
  refine rs_b ra rb fun i hi => h i ?_
  rw [rangeKs_length]
  split <;> omega
theorem ret_sub {h₀ h' : Heap} {L : Addr} {m : Str → Option Value} {news all : List (Addr × Obj)} {s : Shared} {Q : Value → Shared → Prop} {P : Value → Prop} {r : Value} {k : Nat}
    (hret : ∀ (r : Value) (new : List (Addr × Obj)) (h' : Heap) (tk' : Nat), Fr h₀ L h' m → News h₀ L h' (new ++ news) → (∀ q ∈ new, ∀ p ∈ news, p.1 < q.1) → OutV P r new → Q r { s with heap := h', toks := tk' })
    (F : Fr h₀ L h' m) (N : News h₀ L h' all) (hs : ∀ p ∈ news, p ∈ all) (hp : P r) : Q r { s with heap := h', toks := k } :=
  hret r [] h' k F (fun p hp => N p (hs p hp)) (fun _ h => nomatch h) ⟨rfl, hp⟩
set_option maxHeartbeats 2000000 in
theorem rsign_ints (news : List (Addr × Obj)) (a b : Addr) (va vb : List Value) (ra rb : List Int) (na nb : Nat) (ha : (a, W.listOf va.toArray na) ∈ news) (hb : (b, W.listOf vb.toArray nb) ∈ news) (ia : IntsAre va ra) (ib : IntsAre vb rb) (la : ra.length ≤ 13) (lb : rb.length ≤ 13) :
    Tell w mean mg mb 91 2 news [.ref a, .ref b] (OutV fun r => ∃ u, r = .int (rsF ra rb) u) := by
  (k_with "pyIter ref" => k_search (fun pre => RsOk ra rb pre))
  (k_with "state" => first | exact rsOk_0 | exact rsOk_1 (by assumption) (by assumption) (by assumption))
  walk_at "mine start"
  k_steps
  · exact ret_sub hret (by assumption) (by assumption) (fun _ h => by first | exact h | exact List.mem_append_left _ h) ⟨_, congrArg (Value.int · _) (rs_end1 (by assumption) (by assumption) (by assumption) (by assumption))⟩
  · exact ret_sub hret (by assumption) (by assumption) (fun _ h => by first | exact h | exact List.mem_append_left _ h) ⟨_, congrArg (Value.int · _) (rs_end2 (by assumption))⟩

end
section
theorem calm_P08_alone : True := by
  w_top off
  k_with_none
  trivial
set_option hygiene false in
local macro_rules | `(tactic| walk_at "call builtin:sorted") => `(tactic| (k_here; ksk_kw; ksk_show; k_dflt (refine' ksk_letter rankF ?k1 ?k2 ?k3 ?k4 ?k5 ?a1 ?a2 ?a3 (fun n' t' h' tk' own' hm' F' N' => ?_) (fun D' v' n' c' h' tk' F' N' l1 i' e' p' o' b' => ?_); (case k1 => k_asm); (case k2 => k_asm); (case k3 => exact News.isList (by k_asm) (by assumption)); (case k4 => assumption); (case k5 => omega); (case a1 => ksk_a1); (case a2 => (intro x'; ksk_a2)); (case a3 => (intro x'; ksk_a3))); (all_goals (try simp only [Bool.false_eq_true, if_false] at o'))))
theorem src_row {prog : Program} {w : World} {A : Around} {h₀ : Heap} {L : Addr} {m : Str → Option Value} {env : Env} {elt : PySem.Expr} {x : Str} {scope : Scope} {cl : List (Str × Addr)} {Fin : Shared → List Value → List (Addr × Obj) → Prop} {ax : Addr} {va : List Value} {ra : List Int} {k : Nat} {news : List (Addr × Obj)} {s₁ : Shared}
    (hh : A.handled = none) (F : Fr h₀ L s₁.heap m) (N : News h₀ L s₁.heap news) (hm : (ax, W.listOf va.toArray k) ∈ news) (ia : IntsAre va ra) (hl : ra.length ≤ 2 ^ 20)
    (h : ∀ g, LCg.CompRest prog w A h₀ L m env elt x scope cl { s₁ with heap := g } (LCg.SrcAt h₀ ax va.toArray) (fun i v => va.toArray[i]? = some v) (Fin { s₁ with heap := g }) va.toArray.size 0 [] news) :
    LCg.CompSrc prog w A h₀ L m env elt x scope cl Fin (.ref ax) s₁ :=
  LCg.CompSrc.ledger hh F N hm (by have := ia.length; rw [PySem.sizeLine_eq]; simp only [List.size_toArray]; omega) h
theorem srcAt_of {h₀ : Heap} {ax : Addr} {its : Array Value} {n : Nat} {news : List (Addr × Obj)} (hm : (ax, W.listOf its n) ∈ news) : LCg.SrcAt h₀ ax its news := Or.inr ⟨_, hm, rfl, _, rfl⟩
local macro_rules | `(tactic| lcg_src) => `(tactic| exact srcAt_of (by first | assumption | exact List.mem_cons_of_mem _ (by assumption) | exact List.mem_cons_of_mem _ (List.mem_cons_of_mem _ (by assumption)) | exact List.mem_cons_of_mem _ (List.mem_cons_of_mem _ (List.mem_cons_of_mem _ (by assumption)))))
set_option hygiene false in
local macro_rules | `(tactic| walk_at "call builtin:max") => `(tactic| (k_here; (with_reducible show wpAny _ _ (call (Value.builtin _) [Value.ref _]) _ _ _); k_dflt (refine' kso_max ?k1 ?k2 ?k3 ?k4 ?k5 ?k6 ?_; (case k1 => k_asm); (case k2 => k_asm); (case k3 => exact News.isList (by k_asm) (by k_mem)); (case k4 => assumption); (case k5 => (simp only [List.length_map]; omega)); (case k6 => with_unfolding_all rfl)); intro h' M' t' k' F' N' hmx' hmy'))
set_option hygiene false in
local macro_rules | `(tactic| walk_at "CompSrc") => `(tactic| (k_here; k_dflt (refine src_row (by rfl) (by k_asm) (by k_asm) (by first | assumption | exact List.mem_cons_of_mem _ (by assumption) | exact List.mem_cons_of_mem _ (List.mem_cons_of_mem _ (by assumption)) | k_mem) (by assumption) (by omega) ?_; intro g'; (refine' kcf_list rankF (by assumption) (fun k' t' I' oI' C' oC' D' m' ys' h' tk' E' hk' hC' hx' F' N' off' ne' hMark' => ?_) ?_))))
def hereC (ranks others : List Int) (k : Nat) : Bool := decide (ranks.getD k 0 ∉ others) && (decide (∀ a ∈ others, a < ranks.getD k 0) || decide (ranks.getD k 0 ∉ ranks.take k))
def hereF (codes ranks others : List Int) (n : Nat) : List Int := (List.range n).filterMap fun k => if hereC ranks others k = true then some (codes.getD k 0) else none
def HereOk (codes ranks others pre here : List Int) : Prop := here = hereF codes ranks others pre.length
theorem hereF_len (codes ranks others : List Int) (n : Nat) : (hereF codes ranks others n).length ≤ n := by
  have := List.length_filterMap_le (fun k => if hereC ranks others k = true then some (codes.getD k 0) else none) (List.range n)
  rwa [List.length_range] at this
theorem hereOk_all {codes ranks others pre here : List Int} (h : HereOk codes ranks others pre here) : HereOk codes ranks others pre here ∧ here.length ≤ pre.length :=
  ⟨h, by rw [h]; exact hereF_len ..⟩
theorem hereOk_0 {codes ranks others : List Int} : HereOk codes ranks others [] [] := rfl
theorem here_any {l : List Int} {x : Int} : (l.any fun y => y == x) = true ↔ x ∈ l := by simp
theorem here_anyN {l : List Int} {x : Int} (h : (l.any fun y => y == x) = false) : x ∉ l := fun c => by rw [here_any.mpr c] at h; cases h
theorem hereOk_no {codes ranks others pre here : List Int} {k : Int} (h : HereOk codes ranks others pre here) (e : k = 0 + (pre.length : Int)) (c : hereC ranks others k.toNat = false) : HereOk codes ranks others (pre ++ [k]) here := by
  have ek : k.toNat = pre.length := by omega
  rw [ek] at c
  show here = hereF codes ranks others (pre ++ [k]).length
  rw [List.length_append, List.length_singleton, hereF, List.range_succ, List.filterMap_append]
  simp only [List.filterMap_cons, List.filterMap_nil, c, Bool.false_eq_true, if_false, List.append_nil]
  exact h
theorem hereOk_yes {codes ranks others pre here : List Int} {k : Int} (h : HereOk codes ranks others pre here) (e : k = 0 + (pre.length : Int)) (c : hereC ranks others k.toNat = true) : HereOk codes ranks others (pre ++ [k]) (here ++ [codes.getD k.toNat 0]) := by
  have ek : k.toNat = pre.length := by omega
  rw [ek] at c ⊢
  show _ = hereF codes ranks others (pre ++ [k]).length
  rw [List.length_append, List.length_singleton, hereF, List.range_succ, List.filterMap_append]
  simp only [List.filterMap_cons, List.filterMap_nil, c, if_true]
  rw [show here = hereF codes ranks others pre.length from h]; rfl
theorem hereOk_a {codes ranks others pre here : List Int} {k : Int} (h : HereOk codes ranks others pre here) (e : k = 0 + (pre.length : Int)) (c : (others.any fun x => x == ranks.getD k.toNat 0) = true) : HereOk codes ranks others (pre ++ [k]) here :=
  hereOk_no h e (by simp only [hereC, here_any.mp c, not_true_eq_false, decide_false, Bool.false_and])
theorem hereOk_b {codes ranks others pre here : List Int} {k M : Int} (h : HereOk codes ranks others pre here) (e : k = 0 + (pre.length : Int)) (c : (others.any fun x => x == ranks.getD k.toNat 0) = false) (hm : ∀ a, a ∈ others → a ≤ M) (g : M < ranks.getD k.toNat 0) : HereOk codes ranks others (pre ++ [k]) (here ++ [codes.getD k.toNat 0]) :=
  hereOk_yes h e (by
    have h1 := here_anyN c
    have h2 : ∀ a ∈ others, a < ranks.getD k.toNat 0 := fun a ha => Int.lt_of_le_of_lt (hm a ha) g
    rw [hereC, decide_eq_true h1, decide_eq_true h2]; rfl)
theorem hereOk_c {codes ranks others pre here : List Int} {k M : Int} (h : HereOk codes ranks others pre here) (e : k = 0 + (pre.length : Int)) (hx : M ∈ others) (g : ¬ M < ranks.getD k.toNat 0) (d : ((ranks.take k.toNat).any fun x => x == ranks.getD k.toNat 0) = true) : HereOk codes ranks others (pre ++ [k]) here :=
  hereOk_no h e (by
    have h2 : ¬ ∀ a ∈ others, a < ranks.getD k.toNat 0 := fun H => g (H M hx)
    rw [hereC, decide_eq_false h2, decide_eq_false (not_not_intro (here_any.mp d))]; simp)
theorem hereOk_d {codes ranks others pre here : List Int} {k : Int} (h : HereOk codes ranks others pre here) (e : k = 0 + (pre.length : Int)) (c : (others.any fun x => x == ranks.getD k.toNat 0) = false) (d : ((ranks.take k.toNat).any fun x => x == ranks.getD k.toNat 0) = false) : HereOk codes ranks others (pre ++ [k]) (here ++ [codes.getD k.toNat 0]) :=
  hereOk_yes h e (by
    have h1 := here_anyN c
    have h2 := here_anyN d
    rw [hereC, decide_eq_true h1, decide_eq_true h2]; simp)
/-- what _law_here_alone gives back -/
def AloneOut (ra rb : List Int) (r : Value) (new : List (Addr × Obj)) : Prop :=
  ∃ (A : Addr) (vs : List Value) (n : Nat) (cs : List Int), r = .ref A ∧ new = [(A, W.listOf vs.toArray n)] ∧ cs.Perm ra ∧ cs.Pairwise (fun x y => rankF x ≤ rankF y) ∧ IntsAre vs (hereF cs (cs.map rankF) (rb.map rankF) cs.length)
theorem alone_end {ra rb : List Int} {news : List (Addr × Obj)} {p1 p2 p3 : Addr × Obj} {x1 x2 x3 : Addr} {h₀ h' : Heap} {L A : Addr} {m : Str → Option Value} {s : Shared} {Q : Value → Shared → Prop} {vs : List Value} {fs cs : List Int} {n k : Nat}
    (hret : ∀ (r : Value) (new : List (Addr × Obj)) (h' : Heap) (tk' : Nat), Fr h₀ L h' m → News h₀ L h' (new ++ news) → (∀ q ∈ new, ∀ p ∈ news, p.1 < q.1) → AloneOut ra rb r new → Q r { s with heap := h', toks := tk' })
    (F : Fr h₀ L h' m) (N : News h₀ L h' ((A, W.listOf vs.toArray n) :: p1 :: p2 :: p3 :: news)) (hl : x1 < A ∧ x2 < A ∧ x3 < A ∧ AllLt A news) (ia : IntsAre vs fs) (pm : cs.Perm ra) (pw : cs.Pairwise (fun x y => rankF x ≤ rankF y))
    (R : HereOk cs (cs.map rankF) (rb.map rankF) (rangeKs 0 ((cs.length : Int) - 0).toNat) fs) : Q (.ref A) { s with heap := h', toks := k } := by
  have e : fs = hereF cs (cs.map rankF) (rb.map rankF) cs.length := by
    have := R
    unfold HereOk at this
    rw [rangeKs_length] at this
    simpa using this
  refine hret _ [(A, W.listOf vs.toArray n)] _ _ F (fun p hp => N p ?_) (fun q hq p hp => ?_) ⟨A, vs, n, cs, rfl, rfl, pm, pw, e ▸ ia⟩
  · rcases List.mem_append.mp hp with h | h
    · rw [List.mem_singleton] at h; rw [h]; exact List.mem_cons_self
    · exact List.mem_cons_of_mem _ (List.mem_cons_of_mem _ (List.mem_cons_of_mem _ (List.mem_cons_of_mem _ h)))
  · rw [List.mem_singleton] at hq; rw [hq]; exact kst_ltOf hl.2.2.2 p hp
set_option maxHeartbeats 4000000 in
theorem alone_ints (news : List (Addr × Obj)) (a b : Addr) (va vb : List Value) (ra rb : List Int) (na nb : Nat) (ha : (a, W.listOf va.toArray na) ∈ news) (hb : (b, W.listOf vb.toArray nb) ∈ news) (ia : IntsAre va ra) (ib : IntsAre vb rb) (la : ra.length ≤ 13) (lb : rb.length ≤ 13) (lb0 : 0 < rb.length) :
    Tell w mean mg mb 96 2 news [.ref a, .ref b] (AloneOut ra rb) := by
  (k_with "pyIter ref" => k_state_given ["codes", "ranks", "others"] (fun codes ranks others pre here => HereOk codes ranks others pre here ∧ here.length ≤ pre.length) "here")
  (k_with "state" => first | exact hereOk_all hereOk_0 | exact hereOk_all (hereOk_a (by assumption) (by assumption) (by assumption)) | exact hereOk_all (hereOk_b (by assumption) (by assumption) (by assumption) (by assumption) (by assumption)) | exact hereOk_all (hereOk_c (by assumption) (by assumption) (by assumption) (by assumption) (by assumption)) | exact hereOk_all (hereOk_d (by assumption) (by assumption) (by assumption) (by assumption)))
  walk_at "mine start"
  k_steps
  exact alone_end hret (by assumption) (by assumption) (by assumption) (by assumption) (by assumption) (by assumption) (by assumption)

end
theorem calm_P03_readh : True := by
  w_top off
  k_with_none
  trivial
theorem ctoi_chr (news : List (Addr × Obj)) (c : Nat) (t : Tok) : Tell w mean mg mb 35 1 news [.str ⟨#[c]⟩ t] (OutV fun r => ∃ u, r = .int (c : Int) u) := by
  walk_at "mine start"
  k_steps
  all_goals walk_at "mine end"
theorem alt_int (news : List (Addr × Obj)) (n : Int) (t : Tok) : Tell w mean mg mb 56 2 news [.int n t] (OutV fun r => ∃ u, r = .int (Builtin.bitOr n 128) u) := by
  walk_at "mine start"
  k_steps
  all_goals walk_at "mine end"
local macro_rules | `(tactic| walk_at "call ref") => `(tactic| (k_here; k_dflt (first
  | (refine' Tell.use ?k1 ?k2 ?k3 ?k4 ?k5 (ctoi_chr _ _ _) ?k6 ?kd ?ku ?_; walk_at "mine use1")
  | (refine' Tell.use ?k1 ?k2 ?k3 ?k4 ?k5 (alt_int _ _ _) ?k6 ?kd ?ku ?_; walk_at "mine use1"))))
theorem ctrl_chr (news : List (Addr × Obj)) (c : Nat) (t : Tok) : Tell w mean mg mb 49 2 news [.str ⟨#[c]⟩ t] (OutV fun r => ∃ u, r = .str ⟨#[c % 32]⟩ u) := by
  have hb := bitAnd_m5 (c : Int)
  walk_at "mine start"
  k_steps
  all_goals (refine hret _ [] _ _ (by assumption) (by assumption) (fun _ h => nomatch h) ⟨rfl, _, congrArg (Value.str · _) ?_⟩)
  all_goals (rw [hb]; congr 2)
local macro_rules | `(tactic| walk_at "call ref") => `(tactic| (k_here; k_dflt (first
  | (refine' Tell.use ?k1 ?k2 ?k3 ?k4 ?k5 (ctrl_chr _ _ _) ?k6 ?kd ?ku ?_; walk_at "mine use1"))))
section
variable {prog : Program} {A : Around} {E : Value → Shared → Prop} {s : Shared} {a b c : Nat} {t u : Tok} {Q : Value → Shared → Prop} {value slice : PySem.Expr} {h₀ : Heap} {L : Addr} {m : Str → Option Value} {news : List (Addr × Obj)} {y : Str}
theorem len1 (h : Q (.int 1 (s.toks + 1)) { s with toks := s.toks + 1 + 1 }) : wpAny (model prog w) A (call (.builtin "len") [.str ⟨#[a]⟩ t]) Q E s :=
  P.len_str (x := ⟨#[a]⟩) (by simp [Str.length]) h
theorem len2 (h : Q (.int 2 (s.toks + 1)) { s with toks := s.toks + 1 + 1 }) : wpAny (model prog w) A (call (.builtin "len") [.str ⟨#[a, b]⟩ t]) Q E s :=
  P.len_str (x := ⟨#[a, b]⟩) (by simp [Str.length]) h
theorem len3 (h : Q (.int 3 (s.toks + 1)) { s with toks := s.toks + 1 + 1 }) : wpAny (model prog w) A (call (.builtin "len") [.str ⟨#[a, b, c]⟩ t]) Q E s :=
  P.len_str (x := ⟨#[a, b, c]⟩) (by simp [Str.length]) h
theorem it20 (h : Q (.str ⟨#[a]⟩ s.toks) { s with toks := s.toks + 1 }) (hs : subscripted slice false (.str ⟨#[a, b]⟩ t) (.int 0 u) = operate [.str ⟨#[a, b]⟩ t, .int 0 u] (getItem (.str ⟨#[a, b]⟩ t) (.int 0 u)) := by with_unfolding_all rfl)
    (ht : ∀ r, letTemporaryGo value (.str ⟨#[a, b]⟩ t) r = pure () := by intro _; with_unfolding_all rfl) : wpAny (model prog w) A (subscriptTail value slice (.str ⟨#[a, b]⟩ t) (.int 0 u)) Q E s :=
  item_str (by decide) (by simp [Str.length]) (by simp [Str.length]) (fun _ => h) hs ht
theorem it21 (h : Q (.str ⟨#[b]⟩ s.toks) { s with toks := s.toks + 1 }) (hs : subscripted slice false (.str ⟨#[a, b]⟩ t) (.int 1 u) = operate [.str ⟨#[a, b]⟩ t, .int 1 u] (getItem (.str ⟨#[a, b]⟩ t) (.int 1 u)) := by with_unfolding_all rfl)
    (ht : ∀ r, letTemporaryGo value (.str ⟨#[a, b]⟩ t) r = pure () := by intro _; with_unfolding_all rfl) : wpAny (model prog w) A (subscriptTail value slice (.str ⟨#[a, b]⟩ t) (.int 1 u)) Q E s :=
  item_str (by decide) (by simp [Str.length]) (by simp [Str.length]) (fun _ => h) hs ht
theorem it30 (h : Q (.str ⟨#[a]⟩ s.toks) { s with toks := s.toks + 1 }) (hs : subscripted slice false (.str ⟨#[a, b, c]⟩ t) (.int 0 u) = operate [.str ⟨#[a, b, c]⟩ t, .int 0 u] (getItem (.str ⟨#[a, b, c]⟩ t) (.int 0 u)) := by with_unfolding_all rfl)
    (ht : ∀ r, letTemporaryGo value (.str ⟨#[a, b, c]⟩ t) r = pure () := by intro _; with_unfolding_all rfl) : wpAny (model prog w) A (subscriptTail value slice (.str ⟨#[a, b, c]⟩ t) (.int 0 u)) Q E s :=
  item_str (by decide) (by simp [Str.length]) (by simp [Str.length]) (fun _ => h) hs ht
theorem tsl2 : Txt.slice ⟨#[a, b]⟩ (some 1) none = ⟨#[b]⟩ := by
  have e2 : Builtin.Str.strSliceIndices (some 1) none 1 2 = [1] := by decide +kernel
  simp [Txt.slice, Str.length, e2]
theorem tsl3 : Txt.slice ⟨#[a, b, c]⟩ (some 1) none = ⟨#[b, c]⟩ := by
  have e3 : Builtin.Str.strSliceIndices (some 1) none 1 3 = [1, 2] := by decide +kernel
  simp [Txt.slice, Str.length, e3]
theorem sl2 {ui : Tok} (hF : Fr h₀ L s.heap m) (hN : News h₀ L s.heap news) (h : ∀ h' t' k, Fr h₀ L h' m → News h₀ L h' news → Q (.str ⟨#[b]⟩ t') { s with heap := h', toks := k })
    (hs : subscripted slice false (.str ⟨#[a, b]⟩ t) (.ref s.heap.objs.size) = operate [.ref s.heap.objs.size, .str ⟨#[a, b]⟩ t] (getItem (.str ⟨#[a, b]⟩ t) (.ref s.heap.objs.size)) := by with_unfolding_all rfl)
    (ht : ∀ r, letTemporaryGo value (.str ⟨#[a, b]⟩ t) r = pure () := by intro _; with_unfolding_all rfl) :
    wpAny (model prog w) A (subscriptTail value slice (.str ⟨#[a, b]⟩ t) (.ref s.heap.objs.size)) Q E { s with heap := s.heap.push { cls := .type "slice", data := .fields #[.int 1 ui, .none, .none] } } :=
  slice_strN_sn hF hN (fun h' t' k F N => by rw [tsl2]; exact h h' t' k F N) hs ht (by show 2 ≤ sizeLine; decide)
theorem sl3 {ui : Tok} (hF : Fr h₀ L s.heap m) (hN : News h₀ L s.heap news) (h : ∀ h' t' k, Fr h₀ L h' m → News h₀ L h' news → Q (.str ⟨#[b, c]⟩ t') { s with heap := h', toks := k })
    (hs : subscripted slice false (.str ⟨#[a, b, c]⟩ t) (.ref s.heap.objs.size) = operate [.ref s.heap.objs.size, .str ⟨#[a, b, c]⟩ t] (getItem (.str ⟨#[a, b, c]⟩ t) (.ref s.heap.objs.size)) := by with_unfolding_all rfl)
    (ht : ∀ r, letTemporaryGo value (.str ⟨#[a, b, c]⟩ t) r = pure () := by intro _; with_unfolding_all rfl) :
    wpAny (model prog w) A (subscriptTail value slice (.str ⟨#[a, b, c]⟩ t) (.ref s.heap.objs.size)) Q E { s with heap := s.heap.push { cls := .type "slice", data := .fields #[.int 1 ui, .none, .none] } } :=
  slice_strN_sn hF hN (fun h' t' k F N => by rw [tsl3]; exact h h' t' k F N) hs ht (by show 3 ≤ sizeLine; decide)
theorem eq1 (hy : y = ⟨#[b]⟩) (h : Q (.bool (decide (a = b))) s) : wpAny (model prog w) A (compareOp .Eq (.str ⟨#[a]⟩ t) (.str y u)) Q E s := by
  subst hy
  refine PyProof.Rows.eq_str ?_
  have e : ((⟨#[a]⟩ : Str) == ⟨#[b]⟩) = decide (a = b) := by
    by_cases q : a = b
    · subst q; simp
    · have : (⟨#[a]⟩ : Str) ≠ ⟨#[b]⟩ := fun z => by injection z with z; simp at z; exact q z
      simp [q]
  rw [e]; exact h
theorem eq1n (hy : y = ⟨#[b]⟩) (hn : (a == b) = false) (h : Q (.bool false) s) : wpAny (model prog w) A (compareOp .Eq (.str ⟨#[a]⟩ t) (.str y u)) Q E s :=
  eq1 hy (by rw [show decide (a = b) = false from by simpa using hn]; exact h)
theorem eq1y (hy : y = ⟨#[b]⟩) (hn : (a == b) = true) (h : Q (.bool true) s) : wpAny (model prog w) A (compareOp .Eq (.str ⟨#[a]⟩ t) (.str y u)) Q E s :=
  eq1 hy (by rw [show decide (a = b) = true from by simpa using hn]; exact h)
theorem chr159 (h : Q (.str ⟨#[159]⟩ s.toks) { s with toks := s.toks + 1 }) : wpAny (model prog w) A (call (.builtin "chr") [.int 159 t]) Q E s := chr_of_range (by decide) (by decide) h
theorem q63 : Str.ofString "?" = ⟨#[63]⟩ := by decide +kernel
end
local macro_rules | `(tactic| walk_at "call builtin:len") => `(tactic| (k_here; (with_reducible show wpAny _ _ (call (Value.builtin "len") [Value.str (Str.mk _) _]) _ _ _); k_dflt (first | refine len1 ?_ | refine len2 ?_ | refine len3 ?_)))
local macro_rules | `(tactic| walk_at "call builtin:chr") => `(tactic| (k_here; refine chr159 ?_))
local macro_rules | `(tactic| walk_at "compareOp Eq str str") => `(tactic| (k_here; (with_reducible show wpAny _ _ (compareOp _ (Value.str (Str.mk _) _) _) _ _ _); k_dflt (first | refine eq1n sof1 rfl ?_ | refine eq1y sof1 rfl ?_ | refine eq1 sof1 ?_ | refine eq1 q63 ?_ | refine eq1 (b := 159) rfl ?_)))
local macro_rules | `(tactic| walk_at "subscriptTail Name Constant str int") => `(tactic| (k_here; (with_reducible show wpAny _ _ (subscriptTail _ _ (Value.str (Str.mk _) _) (Value.int _ _)) _ _ _); first
  | ((with_reducible show wpAny _ _ (subscriptTail _ _ (Value.str (Str.mk #[_, _]) _) (Value.int 0 _)) _ _ _); k_dflt (refine it20 ?_))
  | ((with_reducible show wpAny _ _ (subscriptTail _ _ (Value.str (Str.mk #[_, _]) _) (Value.int 1 _)) _ _ _); k_dflt (refine it21 ?_))
  | ((with_reducible show wpAny _ _ (subscriptTail _ _ (Value.str (Str.mk #[_, _, _]) _) (Value.int 0 _)) _ _ _); k_dflt (refine it30 ?_))))
local macro_rules | `(tactic| walk_at "subscriptTail Name Slice str ref") => `(tactic| (k_here; (with_reducible show wpAny _ _ (subscriptTail _ _ (Value.str (Str.mk _) _) (Value.ref _)) _ _ _); (with_reducible rename Fr _ _ _ _ => F'); (with_reducible rename News _ _ _ _ => N'); (first
  | ((with_reducible show wpAny _ _ (subscriptTail _ _ (Value.str (Str.mk #[_, _]) _) _) _ _ _); k_dflt (refine sl2 (s := ⟨_, _, _, _, _⟩) F' N' ?_))
  | ((with_reducible show wpAny _ _ (subscriptTail _ _ (Value.str (Str.mk #[_, _, _]) _) _) _ _ _); k_dflt (refine sl3 (s := ⟨_, _, _, _, _⟩) F' N' ?_))); intro _ _ _ _ _))
def rdF (c : Nat) : Int := if c = 63 ∨ c = 159 then 127 else ((c % 32 : Nat) : Int)
theorem rd_a {c : Nat} (h : c = 63) : 127 = rdF c := by simp [rdF, h]
theorem rd_b {c : Nat} (h : c = 159) : 127 = rdF c := by simp [rdF, h]
theorem rd_c {c : Nat} (h : ¬ c = 63) (h' : ¬ c = 159) : ((c % 32 : Nat) : Int) = rdF c := by simp [rdF, h, h']

section
theorem calm_P04_read1 : True := by
  w_top off
  k_with_none
  trivial
theorem read_1 (news : List (Addr × Obj)) (c : Nat) (t : Tok) : Tell w mean mg mb 103 3 news [.str ⟨#[c]⟩ t] (OutV fun r => ∃ u, r = .int (c : Int) u) := by
  walk_at "mine start"
  k_steps
  all_goals walk_at "mine end"

theorem calm_P04_read2 : True := by
  w_top off
  k_with_none
  trivial
theorem read_2 (news : List (Addr × Obj)) (c : Nat) (t : Tok) : Tell w mean mg mb 103 3 news [.str ⟨#[94, c]⟩ t] (OutV fun r => ∃ u, r = .int (rdF c) u) := by
  walk_at "mine start"
  k_steps
  all_goals (refine hret _ [] _ _ (by assumption) (by assumption) (fun _ h => nomatch h) ⟨rfl, _, congrArg (Value.int · _) ?_⟩)
  all_goals first | exact (rd_a (by assumption)) | exact (rd_b (by assumption)) | exact (rd_c (by assumption) (by assumption))

theorem calm_P04_read3 : True := by
  w_top off
  k_with_none
  trivial
theorem read_3 (news : List (Addr × Obj)) (c : Nat) (t : Tok) : Tell w mean mg mb 103 3 news [.str ⟨#[33, c]⟩ t] (OutV fun r => ∃ u, r = .int (Builtin.bitOr (c : Int) 128) u) := by
  walk_at "mine start"
  k_steps
  all_goals walk_at "mine end"

theorem calm_P04_read4 : True := by
  w_top off
  k_with_none
  trivial
theorem read_4 (news : List (Addr × Obj)) (c : Nat) (t : Tok) : Tell w mean mg mb 103 3 news [.str ⟨#[33, 94, c]⟩ t] (OutV fun r => ∃ u, r = .int (Builtin.bitOr (rdF c) 128) u) := by
  walk_at "mine start"
  k_steps
  all_goals (refine hret _ [] _ _ (by assumption) (by assumption) (fun _ h => nomatch h) ⟨rfl, _, congrArg (Value.int · _) ?_⟩)
  all_goals first | exact congrArg (Builtin.bitOr · 128) (rd_a (by assumption)) | exact congrArg (Builtin.bitOr · 128) (rd_b (by assumption)) | exact congrArg (Builtin.bitOr · 128) (rd_c (by assumption) (by assumption))

end
def utx (k : Nat) : List Nat := if k < 63 then [k + 32] else if k = 63 then [94, 63] else if k < 96 then [94, k] else if k = 96 then [94, 159] else [k - 2]
def rtx (r : Nat) : List Nat := if r < 2 then utx r else if r < 131 then 33 :: utx (r - 2) else utx (r - 129)
theorem rtx_step : ∀ r : Fin 257, rtx r.val < rtx (r.val + 1) := by decide +kernel
theorem rtx_of : ∀ c : Fin 384, 0 ≤ rankF ((c.val : Nat) : Int) ∧ rankF ((c.val : Nat) : Int) < 258 ∧ uncF ((c.val : Nat) : Int) = rtx (rankF ((c.val : Nat) : Int)).toNat := by decide +kernel
theorem rtx_lt {i : Nat} : ∀ {j : Nat}, i < j → j < 258 → rtx i < rtx j
  | 0, h, _ => absurd h (Nat.not_lt_zero _)
  | j + 1, h, hj => by
    have st := rtx_step ⟨j, by omega⟩
    rcases Nat.lt_or_ge i j with c | c
    · exact List.lt_trans (rtx_lt c (by omega)) st
    · have : i = j := by omega
      rw [this]; exact st
def Cd (n : Int) : Prop := 0 ≤ n ∧ n < 384
theorem unc_rank {n : Int} (h : Cd n) : 0 ≤ rankF n ∧ rankF n < 258 ∧ uncF n = rtx (rankF n).toNat := by
  have k := rtx_of ⟨n.toNat, by have := h.1; have := h.2; omega⟩
  have e : ((n.toNat : Nat) : Int) = n := Int.toNat_of_nonneg h.1
  simpa only [e] using k
theorem unc_lt {a b : Int} (ha : Cd a) (hb : Cd b) : uncF a < uncF b ↔ rankF a < rankF b := by
  obtain ⟨a0, a1, ea⟩ := unc_rank ha
  obtain ⟨b0, b1, eb⟩ := unc_rank hb
  rw [ea, eb]
  refine ⟨fun h => ?_, fun h => rtx_lt (by omega) (by omega)⟩
  apply Decidable.byContradiction
  intro c
  rcases Nat.lt_or_ge (rankF b).toNat (rankF a).toNat with q | q
  · exact List.lt_asymm h (rtx_lt q (by omega))
  · have : (rankF a).toNat = (rankF b).toNat := by omega
    rw [this] at h; exact List.lt_irrefl _ h
theorem unc_eq {a b : Int} (ha : Cd a) (hb : Cd b) : uncF a = uncF b ↔ rankF a = rankF b := by
  obtain ⟨a0, a1, ea⟩ := unc_rank ha
  obtain ⟨b0, b1, eb⟩ := unc_rank hb
  refine ⟨fun h => ?_, fun h => by rw [ea, eb, h]⟩
  apply Decidable.byContradiction
  intro c
  rcases Int.lt_or_gt_of_ne c with q | q
  · have := (unc_lt ha hb).mpr q
    rw [h] at this; exact List.lt_irrefl _ this
  · have := (unc_lt hb ha).mpr q
    rw [h] at this; exact List.lt_irrefl _ this
def txt (n : Int) : PySem.Str := ⟨(uncF n).toArray⟩
theorem txt_lt {a b : Int} (ha : Cd a) (hb : Cd b) : ltS (txt a) (txt b) ↔ rankF a < rankF b := unc_lt ha hb
theorem txt_eq {a b : Int} (ha : Cd a) (hb : Cd b) : txt a = txt b ↔ rankF a = rankF b := by
  rw [← unc_eq ha hb]
  refine ⟨fun h => ?_, fun h => by unfold txt; rw [h]⟩
  have : (txt a).cps.toList = (txt b).cps.toList := by rw [h]
  simpa [txt] using this
theorem cmp_txt {a b : Int} (ha : Cd a) (hb : Cd b) : cmpF (uncF a) (uncF b) = sgnF (rankF a - rankF b) := by
  have h1 := unc_lt ha hb
  have h2 := unc_lt hb ha
  unfold cmpF sgnF
  rcases Int.lt_trichotomy (rankF a) (rankF b) with c | c | c
  · have d1 : decide (uncF a < uncF b) = true := decide_eq_true (h1.mpr c)
    have d2 : decide (uncF b < uncF a) = false := decide_eq_false fun q => by have := h2.mp q; omega
    rw [d1, d2, if_neg (by omega), if_neg (by omega)]; decide
  · have d1 : decide (uncF a < uncF b) = false := decide_eq_false fun q => by have := h1.mp q; omega
    have d2 : decide (uncF b < uncF a) = false := decide_eq_false fun q => by have := h2.mp q; omega
    rw [d1, d2, if_pos (by omega)]; decide
  · have d1 : decide (uncF a < uncF b) = false := decide_eq_false fun q => by have := h1.mp q; omega
    have d2 : decide (uncF b < uncF a) = true := decide_eq_true (h2.mpr c)
    rw [d1, d2, if_neg (by omega), if_pos (by omega)]; decide
/-- the order of lists of texts -/
def lexS : List PySem.Str → List PySem.Str → Bool
  | x :: xs, y :: ys => if x = y then lexS xs ys else decide (ltS x y)
  | [], ys => decide (0 < ys.length)
  | _ :: _, [] => false
def cmpL (xs ys : List PySem.Str) : Int := b2i (lexS ys xs) - b2i (lexS xs ys)
theorem cmpL_txt : ∀ (as bs : List Int), (∀ a ∈ as, Cd a) → (∀ b ∈ bs, Cd b) → cmpL (as.map txt) (bs.map txt) = rsF as bs
  | [], [], _, _ => by decide
  | [], b :: bs, _, _ => by
    simp only [cmpL, List.map_nil, List.map_cons, lexS, rsF, sgnF, List.length_cons]
    rw [if_neg (by omega), if_neg (by omega)]; simp [b2i]
  | a :: as, [], _, _ => by
    simp only [cmpL, List.map_nil, List.map_cons, lexS, rsF, sgnF, List.length_cons]
    rw [if_neg (by omega), if_pos (by omega)]; simp [b2i]
  | a :: as, b :: bs, ha, hb => by
    have ca := ha a List.mem_cons_self
    have cb := hb b List.mem_cons_self
    have ih := cmpL_txt as bs (fun x h => ha x (List.mem_cons_of_mem _ h)) (fun x h => hb x (List.mem_cons_of_mem _ h))
    simp only [cmpL, List.map_cons, lexS, rsF] at ih ⊢
    by_cases e : rankF a = rankF b
    · rw [if_pos ((txt_eq cb ca).mpr e.symm), if_pos ((txt_eq ca cb).mpr e), ih, if_neg (not_not_intro e)]
    · rw [if_neg (fun q => e ((txt_eq cb ca).mp q).symm), if_neg (fun q => e ((txt_eq ca cb).mp q)), if_pos e, ← cmp_txt ca cb]; rfl
/-- sorted lists of texts -/
def leS (x y : PySem.Str) : Prop := ¬ ltS y x
theorem leS_trans {x y z : PySem.Str} (h : leS x y) (k : leS y z) : leS x z :=
  fun q => h (List.lt_of_le_of_lt (List.not_lt.mp k) q)
theorem rising_pw : ∀ (p : PySem.Str) (l : List PySem.Str), risingS p l = true → (p :: l).Pairwise leS
  | p, [], _ => List.pairwise_singleton ..
  | p, x :: r, h => by
    have h' : (!PySem.Spec.ltCps x.cps.toList p.cps.toList && risingS x r) = true := h
    rw [Bool.and_eq_true] at h'
    have ih := rising_pw x r h'.2
    have hx : leS p x := by
      have := h'.1
      rw [ltCps_eq] at this
      simpa [leS, ltS] using this
    refine List.Pairwise.cons (fun y hy => ?_) ih
    rcases List.mem_cons.mp hy with rfl | hy
    · exact hx
    · exact leS_trans hx ((List.pairwise_cons.mp ih).1 y hy)
theorem sorted_pw {l : List PySem.Str} (h : sortedS l = true) : l.Pairwise leS := by
  cases l with
  | nil => exact List.Pairwise.nil
  | cons x r => exact rising_pw x r h
theorem str_of_list {x y : PySem.Str} (h : x.cps.toList = y.cps.toList) : x = y := Str.ext' (Array.ext' h)
theorem sorted_txt {l : List PySem.Str} {ra cs : List Int} (hl : sortedS l = true) (pl : l.Perm (ra.map txt)) (pc : cs.Perm ra) (hc : cs.Pairwise (fun x y => rankF x ≤ rankF y)) (hr : ∀ a ∈ ra, Cd a) : l = cs.map txt := by
  have h2 : (cs.map txt).Pairwise leS := by
    rw [List.pairwise_map]
    refine List.Pairwise.imp_of_mem (fun {a b} ha hb h q => ?_) hc
    have := (txt_lt (hr _ (pc.mem_iff.mp hb)) (hr _ (pc.mem_iff.mp ha))).mp q
    omega
  refine List.Perm.eq_of_pairwise (fun a b _ _ h k => ?_) (sorted_pw hl) h2 (pl.trans (pc.symm.map txt))
  exact str_of_list (List.le_antisymm (List.not_lt.mp h) (List.not_lt.mp k))
/-- what of the codes as stays beside the ranks os, p ahead of them -/
def kpB (os p : List Int) (r : Int) : Bool := decide (r ∉ os) && (decide (∀ a ∈ os, a < r) || decide (r ∉ p))
def kp (os : List Int) : List Int → List Int → List Int
  | _, [] => []
  | p, a :: as => if kpB os p (rankF a) = true then a :: kp os (p ++ [rankF a]) as else kp os (p ++ [rankF a]) as
theorem kp_congr {os : List Int} : ∀ (as : List Int) (p p' : List Int), (∀ x, x ∈ p ↔ x ∈ p') → kp os p as = kp os p' as
  | [], _, _, _ => rfl
  | a :: as, p, p', h => by
    have e : kpB os p (rankF a) = kpB os p' (rankF a) := by unfold kpB; simp only [h]
    have ih := kp_congr (os := os) as (p ++ [rankF a]) (p' ++ [rankF a]) (fun x => by simp only [List.mem_append, h])
    simp only [kp, e, ih]
theorem kp_os {os os' : List Int} : ∀ (as : List Int) (p : List Int), (∀ a ∈ as, (rankF a ∈ os ↔ rankF a ∈ os') ∧ ((∀ x ∈ os, x < rankF a) ↔ (∀ x ∈ os', x < rankF a))) → kp os p as = kp os' p as
  | [], _, _ => rfl
  | a :: as, p, h => by
    have h0 := h a List.mem_cons_self
    have e : kpB os p (rankF a) = kpB os' p (rankF a) := by unfold kpB; simp only [h0.1, h0.2]
    have ih := kp_os as (p ++ [rankF a]) (fun x hx => h x (List.mem_cons_of_mem _ hx))
    simp only [kp, e, ih]
theorem kp_nil : ∀ (as : List Int) (p : List Int), kp [] p as = as
  | [], _ => rfl
  | a :: as, p => by
    have e : kpB [] p (rankF a) = true := by simp [kpB]
    simp only [kp, e, if_true, kp_nil as]
theorem kp_drop {os : List Int} {r : Int} (hr : r ∈ os ∨ ¬ ∀ a ∈ os, a < r) : ∀ (as : List Int) (p : List Int), r ∈ p → kp os p as = kp os p (as.dropWhile (fun c => rankF c == r))
  | [], _, _ => rfl
  | c :: cs, p, hp => by
    by_cases e : rankF c = r
    · have e' : kpB os p (rankF c) = false := by
        rw [e]; unfold kpB
        rcases hr with h | h
        · simp [h]
        · rw [decide_eq_false h, decide_eq_false (not_not_intro hp)]; simp
      have d : (c :: cs).dropWhile (fun c => rankF c == r) = cs.dropWhile (fun c => rankF c == r) := by
        rw [List.dropWhile_cons_of_pos]; simpa using e
      rw [d, ← kp_drop hr cs p hp]
      simp only [kp, e', Bool.false_eq_true, if_false]
      refine kp_congr cs _ _ fun x => ?_
      rw [List.mem_append, List.mem_singleton, e]
      exact ⟨fun h => h.elim id fun q => q ▸ hp, .inl⟩
    · rw [List.dropWhile_cons_of_neg (by simpa using e)]
abbrev rle (x y : Int) : Prop := rankF x ≤ rankF y
theorem drop_gt {r : Int} : ∀ {as : List Int}, as.Pairwise rle → (∀ c ∈ as, r ≤ rankF c) → ∀ c ∈ as.dropWhile (fun c => rankF c == r), r < rankF c
  | [], _, _, c, hc => by simp at hc
  | a :: as, hp, hl, c, hc => by
    by_cases e : rankF a = r
    · rw [List.dropWhile_cons_of_pos (by simpa using e)] at hc
      exact drop_gt (List.pairwise_cons.mp hp).2 (fun c h => hl c (List.mem_cons_of_mem _ h)) c hc
    · rw [List.dropWhile_cons_of_neg (by simpa using e)] at hc
      have h0 := hl a List.mem_cons_self
      rcases List.mem_cons.mp hc with rfl | hc
      · omega
      · have : rankF a ≤ rankF c := (List.pairwise_cons.mp hp).1 c hc
        omega
theorem drop_mem {r : Int} : ∀ {bs : List Int} {b : Int}, b ∈ bs → rankF b = r ∨ b ∈ bs.dropWhile (fun c => rankF c == r)
  | [], _, h => nomatch h
  | c :: cs, b, h => by
    by_cases e : rankF c = r
    · rw [List.dropWhile_cons_of_pos (by simpa using e)]
      rcases List.mem_cons.mp h with rfl | h
      · exact .inl e
      · exact drop_mem h
    · rw [List.dropWhile_cons_of_neg (by simpa using e)]; exact .inr h
theorem drop_sub {r : Int} {bs : List Int} {b : Int} (h : b ∈ bs.dropWhile (fun c => rankF c == r)) : b ∈ bs := (List.dropWhile_sublist _).subset h
theorem drop_txt {x : Int} (hx : Cd x) : ∀ (as : List Int), (∀ a ∈ as, Cd a) → (as.map txt).dropWhile (· == txt x) = (as.dropWhile (fun c => rankF c == rankF x)).map txt
  | [], _ => rfl
  | a :: as, h => by
    have ih := drop_txt hx as (fun a h' => h a (List.mem_cons_of_mem _ h'))
    have ca := h a List.mem_cons_self
    rw [List.map_cons]
    by_cases e : rankF a = rankF x
    · rw [List.dropWhile_cons_of_pos (by simpa using (txt_eq ca hx).mpr e), List.dropWhile_cons_of_pos (by simpa using e), ih]
    · rw [List.dropWhile_cons_of_neg (by simpa using fun q => e ((txt_eq ca hx).mp q)), List.dropWhile_cons_of_neg (by simpa using e), List.map_cons]
theorem os_drop {b : Int} {bs : List Int} {r : Int} (h : rankF b < r) :
    (r ∈ (b :: bs).map rankF ↔ r ∈ (bs.dropWhile (fun c => rankF c == rankF b)).map rankF) ∧ ((∀ x ∈ (b :: bs).map rankF, x < r) ↔ (∀ x ∈ (bs.dropWhile (fun c => rankF c == rankF b)).map rankF, x < r)) := by
  simp only [List.mem_map, List.mem_cons, forall_exists_index, and_imp, forall_apply_eq_imp_iff₂]
  refine ⟨⟨?_, ?_⟩, ?_, ?_⟩
  · rintro ⟨c, rfl | hc, e⟩
    · omega
    · rcases drop_mem (r := rankF b) hc with q | q
      · omega
      · exact ⟨c, q, e⟩
  · rintro ⟨c, hc, e⟩
    exact ⟨c, .inr (drop_sub hc), e⟩
  · intro H c hc
    exact H c (.inr (drop_sub hc))
  · rintro H c (rfl | hc)
    · exact h
    · rcases drop_mem (r := rankF b) hc with q | q
      · omega
      · exact H c q
theorem sld_kp : ∀ (n : Nat) (as bs p : List Int), as.length + bs.length ≤ n → (∀ a ∈ as, Cd a) → (∀ b ∈ bs, Cd b) → as.Pairwise rle → bs.Pairwise rle → (∀ q ∈ p, ∀ a ∈ as, q < rankF a) →
    (sldF (as.map txt) (bs.map txt)).1 = (kp (bs.map rankF) p as).map txt
  | n, [], bs, p, _, _, _, _, _, _ => by
    rw [List.map_nil, sldF]; rfl
  | n, a :: as, [], p, _, _, _, _, _, _ => by
    rw [List.map_nil, List.map_nil, kp_nil, List.map_cons, sldF]
    intro h; cases h
  | 0, a :: as, b :: bs, _, h, _, _, _, _, _ => by simp only [List.length_cons] at h; omega
  | n + 1, a :: as, b :: bs, p, hn, ca, cb, pa, pb, hp => by
    have ca0 := ca a List.mem_cons_self
    have cb0 := cb b List.mem_cons_self
    have ca' : ∀ x ∈ as, Cd x := fun x h => ca x (List.mem_cons_of_mem _ h)
    have cb' : ∀ x ∈ bs, Cd x := fun x h => cb x (List.mem_cons_of_mem _ h)
    have pa' := (List.pairwise_cons.mp pa).2
    have pb' := (List.pairwise_cons.mp pb).2
    have la := (List.dropWhile_sublist (fun c => rankF c == rankF a) (l := as)).length_le
    have lb := (List.dropWhile_sublist (fun c => rankF c == rankF b) (l := bs)).length_le
    have ga := drop_gt (r := rankF a) pa' (fun c h => (List.pairwise_cons.mp pa).1 c h)
    have gb := drop_gt (r := rankF b) pb' (fun c h => (List.pairwise_cons.mp pb).1 c h)
    have wa := pa'.sublist (List.dropWhile_sublist (fun c => rankF c == rankF a))
    have wb := pb'.sublist (List.dropWhile_sublist (fun c => rankF c == rankF b))
    have hp' : ∀ q ∈ p ++ [rankF a], ∀ c ∈ as.dropWhile (fun c => rankF c == rankF a), q < rankF c := by
      intro q hq c hc
      rcases List.mem_append.mp hq with hq | hq
      · exact hp q hq c (List.mem_cons_of_mem _ (drop_sub hc))
      · rw [List.mem_singleton.mp hq]; exact ga c hc
    have mp : rankF a ∈ p ++ [rankF a] := List.mem_append_right _ List.mem_cons_self
    simp only [List.length_cons] at hn
    rw [List.map_cons, List.map_cons, sldF]
    rcases Int.lt_trichotomy (rankF a) (rankF b) with c | c | c
    · have h1 : ∀ x ∈ (b :: bs).map rankF, rankF a < x := by
        intro x hx
        obtain ⟨y, hy, rfl⟩ := List.mem_map.mp hx
        rcases List.mem_cons.mp hy with rfl | hy
        · exact c
        · have : rankF b ≤ rankF y := (List.pairwise_cons.mp pb).1 y hy
          omega
      have e : kpB ((b :: bs).map rankF) p (rankF a) = true := by
        have n1 : rankF a ∉ (b :: bs).map rankF := fun q => by have := h1 _ q; omega
        have n2 : rankF a ∉ p := fun q => by have := hp _ q a List.mem_cons_self; omega
        unfold kpB
        rw [decide_eq_true n1, decide_eq_true n2]; simp
      rw [if_pos ((txt_lt ca0 cb0).mpr c), drop_txt ca0 as ca']
      have ih := sld_kp n (as.dropWhile (fun c => rankF c == rankF a)) (b :: bs) (p ++ [rankF a]) (by simp only [List.length_cons]; omega) (fun x h => ca' x (drop_sub h)) cb wa pb hp'
      rw [List.map_cons] at ih
      show txt a :: (sldF _ _).1 = _
      rw [ih, kp, if_pos e, List.map_cons, kp_drop (.inr fun H => by have := H (rankF b) (by simp); omega) as _ mp]
      rfl
    · rw [if_neg (fun q => by have := (txt_lt ca0 cb0).mp q; omega), if_neg (fun q => by have := (txt_lt cb0 ca0).mp q; omega), drop_txt ca0 as ca', drop_txt cb0 bs cb']
      have ih := sld_kp n (as.dropWhile (fun c => rankF c == rankF a)) (bs.dropWhile (fun c => rankF c == rankF b)) (p ++ [rankF a]) (by omega) (fun x h => ca' x (drop_sub h)) (fun x h => cb' x (drop_sub h)) wa wb hp'
      have m : rankF a ∈ (b :: bs).map rankF := by rw [c]; simp
      have e : kpB ((b :: bs).map rankF) p (rankF a) = false := by
        unfold kpB; rw [decide_eq_false (not_not_intro m)]; rfl
      rw [ih, kp, e, if_neg (by decide), kp_drop (.inl m) as _ mp]
      congr 1
      exact (kp_os _ _ fun x hx => os_drop (by have := ga x hx; omega)).symm
    · rw [if_neg (fun q => by have := (txt_lt ca0 cb0).mp q; omega), if_pos ((txt_lt cb0 ca0).mpr c), drop_txt cb0 bs cb']
      have ih := sld_kp n (a :: as) (bs.dropWhile (fun c => rankF c == rankF b)) p (by simp only [List.length_cons]; omega) ca (fun x h => cb' x (drop_sub h)) pa wb hp
      rw [List.map_cons] at ih
      show (sldF _ _).1 = _
      rw [ih]
      congr 1
      refine (kp_os _ _ fun x hx => os_drop ?_).symm
      rcases List.mem_cons.mp hx with rfl | hx
      · exact c
      · have : rankF a ≤ rankF x := (List.pairwise_cons.mp pa).1 x hx
        omega
theorem ltS_asymm {x y : PySem.Str} (h : ltS x y) : ¬ ltS y x := List.lt_asymm h
theorem sld_swap : ∀ (n : Nat) (xs ys : List PySem.Str), xs.length + ys.length ≤ n → (sldF xs ys).2 = (sldF ys xs).1
  | _, [], [], _ => by rw [sldF]
  | _, [], y :: ys, _ => by rw [sldF, sldF]; intro h; cases h
  | _, x :: xs, [], _ => by
    rw [sldF, sldF]
    intro h; cases h
  | 0, x :: xs, y :: ys, h => by simp only [List.length_cons] at h; omega
  | n + 1, x :: xs, y :: ys, h => by
    have lx := (List.dropWhile_sublist (fun z => z == x) (l := xs)).length_le
    have ly := (List.dropWhile_sublist (fun z => z == y) (l := ys)).length_le
    simp only [List.length_cons] at h
    rw [sldF, sldF]
    by_cases c : ltS x y
    · rw [if_pos c, if_neg (ltS_asymm c), if_pos c]
      exact sld_swap n _ _ (by simp only [List.length_cons]; omega)
    · by_cases d : ltS y x
      · rw [if_neg c, if_pos d, if_pos d]
        show y :: _ = y :: _
        rw [sld_swap n _ _ (by simp only [List.length_cons]; omega)]
      · rw [if_neg c, if_neg d, if_neg d, if_neg c]
        exact sld_swap n _ _ (by omega)
theorem here_kp {os : List Int} : ∀ (suf pre : List Int), ((List.range suf.length).filterMap fun k => if hereC ((pre ++ suf).map rankF) os (pre.length + k) = true then some ((pre ++ suf).getD (pre.length + k) 0) else none) = kp os (pre.map rankF) suf
  | [], _ => rfl
  | a :: suf, pre => by
    have ih := here_kp (os := os) suf (pre ++ [a])
    simp only [List.append_assoc, List.singleton_append, List.length_append, List.length_singleton, List.map_append, List.map_cons, List.map_nil] at ih
    have e0 : hereC ((pre ++ a :: suf).map rankF) os (pre.length + 0) = kpB os (pre.map rankF) (rankF a) := by
      unfold hereC kpB
      simp [List.getD_eq_getElem?_getD, List.take_left']
    have g0 : (pre ++ a :: suf).getD (pre.length + 0) 0 = a := by simp [List.getD_eq_getElem?_getD]
    rw [List.length_cons, List.range_succ_eq_map, List.filterMap_cons, List.filterMap_map, e0, g0, kp, ← ih]
    have ef : (fun k => if hereC ((pre ++ a :: suf).map rankF) os (pre.length + k) = true then some ((pre ++ a :: suf).getD (pre.length + k) 0) else none) ∘ Nat.succ = fun k => if hereC ((pre ++ a :: suf).map rankF) os (pre.length + 1 + k) = true then some ((pre ++ a :: suf).getD (pre.length + 1 + k) 0) else none := by
      funext k
      show (if hereC _ os (pre.length + (k + 1)) = true then _ else _) = _
      rw [show pre.length + (k + 1) = pre.length + 1 + k by omega]
    rw [ef]
    simp only [List.map_append, List.map_cons]
    cases kpB os (pre.map rankF) (rankF a) <;> rfl
theorem hereF_kp (os cs : List Int) : hereF cs (cs.map rankF) os cs.length = kp os [] cs := by
  have := here_kp (os := os) cs []
  simpa [hereF] using this
/-- the told texts are the texts of the codes that are here alone -/
theorem sld_gone {sa sb : List PySem.Str} {ra rb cs : List Int} (ha : ∀ a ∈ ra, Cd a) (hb : ∀ b ∈ rb, Cd b) (s1 : sortedS sa = true) (p1 : sa.Perm (ra.map txt)) (s2 : sortedS sb = true) (p2 : sb.Perm (rb.map txt)) (db : List Int) (pd : db.Perm rb) (wd : db.Pairwise rle)
    (pc : cs.Perm ra) (wc : cs.Pairwise rle) : (sldF sa sb).1 = (hereF cs (cs.map rankF) (rb.map rankF) cs.length).map txt := by
  rw [sorted_txt s1 p1 pc wc ha, sorted_txt s2 p2 pd wd hb, hereF_kp,
    sld_kp _ cs db [] (Nat.le_refl _) (fun a h => ha a (pc.mem_iff.mp h)) (fun b h => hb b (pd.mem_iff.mp h)) wc wd (fun q h => nomatch h)]
  congr 1
  refine kp_os _ _ fun a _ => ?_
  have m : ∀ x, x ∈ db.map rankF ↔ x ∈ rb.map rankF := fun x => (pd.map rankF).mem_iff
  simp only [m, and_self]
theorem sld_come {sa sb : List PySem.Str} {ra rb db : List Int} (ha : ∀ a ∈ ra, Cd a) (hb : ∀ b ∈ rb, Cd b) (s1 : sortedS sa = true) (p1 : sa.Perm (ra.map txt)) (s2 : sortedS sb = true) (p2 : sb.Perm (rb.map txt)) (cs : List Int) (pc : cs.Perm ra) (wc : cs.Pairwise rle)
    (pd : db.Perm rb) (wd : db.Pairwise rle) : (sldF sa sb).2 = (hereF db (db.map rankF) (ra.map rankF) db.length).map txt := by
  rw [sld_swap _ sa sb (Nat.le_refl _)]
  exact sld_gone hb ha s2 p2 s1 p1 cs pc wc pd wd
/-- reading back -/
inductive Shp (c : Int) : Prop
  | a (x : Nat) (h : uncF c = [x]) (e : (x : Int) = c % 256)
  | b (x : Nat) (h : uncF c = [94, x]) (e : rdF x = c % 256)
  | c (x : Nat) (h : uncF c = [33, x]) (e : Builtin.bitOr (x : Int) 128 = c % 256)
  | d (x : Nat) (h : uncF c = [33, 94, x]) (e : Builtin.bitOr (rdF x) 128 = c % 256)
def shpB (c : Int) : Bool := match uncF c with
  | [x] => decide ((x : Int) = c % 256)
  | [y, x] => if y = 94 then decide (rdF x = c % 256) else decide (y = 33) && decide (Builtin.bitOr (x : Int) 128 = c % 256)
  | [y, z, x] => decide (y = 33) && decide (z = 94) && decide (Builtin.bitOr (rdF x) 128 = c % 256)
  | _ => false
theorem shpB_all : ∀ c : Fin 384, shpB ((c.val : Nat) : Int) = true := by decide +kernel
theorem shp_of {c : Int} (h : shpB c = true) : Shp c := by
  unfold shpB at h
  split at h
  · exact .a _ (by assumption) (by simpa using h)
  · rename_i y x e
    split at h
    · rename_i q; subst q; exact .b _ e (by simpa using h)
    · simp only [Bool.and_eq_true, decide_eq_true_eq] at h
      obtain ⟨rfl, h⟩ := h
      exact .c _ e h
  · rename_i y z x e
    simp only [Bool.and_eq_true, decide_eq_true_eq] at h
    obtain ⟨⟨rfl, rfl⟩, h⟩ := h
    exact .d _ e h
  · cases h
theorem shp {c : Int} (h : Cd c) : Shp c := shp_of (by
  have k := shpB_all ⟨c.toNat, by have := h.1; have := h.2; omega⟩
  have e : ((c.toNat : Nat) : Int) = c := Int.toNat_of_nonneg h.1
  simpa only [e] using k)

theorem strs_some {vs : List Value} {xs : List PySem.Str} (h : StrsAre vs xs) {i : Nat} {x : PySem.Str} (e : xs[i]? = some x) : ∃ t, vs.toArray[i]? = some (.str x t) := by
  obtain ⟨t, ht⟩ := h.at e
  exact ⟨t, by simpa using ht⟩
theorem lex_drop {xs ys : List PySem.Str} {i : Nat} {x y : PySem.Str} (hx : xs[i]? = some x) (hy : ys[i]? = some y) :
    lexS (xs.drop i) (ys.drop i) = if x = y then lexS (xs.drop (i + 1)) (ys.drop (i + 1)) else decide (ltS x y) := by
  obtain ⟨h1, e1⟩ := List.getElem?_eq_some_iff.mp hx
  obtain ⟨h2, e2⟩ := List.getElem?_eq_some_iff.mp hy
  rw [List.drop_eq_getElem_cons h1, List.drop_eq_getElem_cons h2, e1, e2, lexS]
theorem lex_end {xs ys : List PySem.Str} {i : Nat} (h1 : i ≤ xs.length) (h2 : i ≤ ys.length) (h : i = xs.length ∨ i = ys.length) : lexS (xs.drop i) (ys.drop i) = decide (xs.length < ys.length) := by
  rcases h with h | h
  · rw [List.drop_of_length_le (Nat.le_of_eq h.symm), lexS, List.length_drop]
    congr 1
    exact propext ⟨fun q => by omega, fun q => by omega⟩
  · rw [show ys.drop i = [] from List.drop_of_length_le (Nat.le_of_eq h.symm)]
    cases e : xs.drop i with
    | nil =>
      have := congrArg List.length e
      rw [List.length_drop, List.length_nil] at this
      show decide (0 < 0) = _
      congr 1
      exact propext ⟨fun q => by omega, fun q => by omega⟩
    | cons a as =>
      show false = _
      exact (decide_eq_false (by omega)).symm
section
open PySem.SeqAt PySem.MeetsSeq PySem.MeetsSeq2 PySem.MeetsSeq3
theorem lt_loop (l b : Addr) (vs ws : List Value) (xs ys : List PySem.Str) (hx : StrsAre vs xs) (hy : StrsAre ws ys) (n n2 : Nat) (dd dd2 : Option Addr) (sl sl2 : Array (Option Value)) (k : Nat) :
    ∀ i : Nat, i ≤ xs.length → i ≤ ys.length → xs.length - i = k → Meets (Builtin.«list.__eq__.loop» ⟨[.ref l, .ref b, rawInt i, rawInt 0], []⟩)
      (fun A R s => s.heap.get? l = some { cls := .type "list", dict := dd, data := .seq vs.toArray n, slots := sl } ∧ s.heap.get? b = some { cls := .type "list", dict := dd2, data := .seq ws.toArray n2, slots := sl2 } ∧
        R (.ok (.ret (.bool (lexS (xs.drop i) (ys.drop i))))) s) := by
  have lx := hx.length
  have ly := hy.length
  induction k with
  | zero =>
    intro i hi hj hk prog w A R s h
    obtain ⟨hp, g, d, tk, os⟩ := s; obtain ⟨hl, hb, h⟩ := h
    rw [lex_end hi hj (.inl (by omega))] at h
    wp_walk using AutoSeq1.wpAny_loadPart' hl, AutoSeq1.wpAny_loadPart' hb
    have hi1 : vs.toArray[((i : Nat) : Int).toNat]? = none := by simp; omega
    rw [hi1]
    wp_walk using AutoSeq1.wpAny_loadPart' hl, AutoSeq1.wpAny_loadPart' hb
    show R (.ok (.ret (.bool (decide (vs.toArray.size < ws.toArray.size))))) _
    rw [List.size_toArray, List.size_toArray, lx, ly]
    exact h
  | succ k ih =>
    intro i hi hj hk prog w A R s h
    obtain ⟨hp, g, d, tk, os⟩ := s; obtain ⟨hl, hb, h⟩ := h
    wp_walk using AutoSeq1.wpAny_loadPart' hl, AutoSeq1.wpAny_loadPart' hb
    have hlt : i < xs.length := by omega
    obtain ⟨t, hi1⟩ := strs_some hx (List.getElem?_eq_getElem hlt)
    have hi1' : vs.toArray[((i : Nat) : Int).toNat]? = some (.str xs[i] t) := by simpa using hi1
    by_cases hlt2 : i < ys.length
    · obtain ⟨u, hi2⟩ := strs_some hy (List.getElem?_eq_getElem hlt2)
      have hi2' : ws.toArray[((i : Nat) : Int).toNat]? = some (.str ys[i] u) := by simpa using hi2
      have hc : ((i : Int) + 1) = ((i + 1 : Nat) : Int) := by push_cast; rfl
      rw [lex_drop (List.getElem?_eq_getElem hlt) (List.getElem?_eq_getElem hlt2)] at h
      rw [hi1', hi2']
      refine wpAny_bind (EqAt.str_str _ _ _ _ prog w _ _ ?_)
      by_cases e : xs[i] = ys[i]
      · rw [if_pos e] at h
        rw [show (xs[i] == ys[i]) = true from by simpa using e]
        wp_walk
        rw [hc]
        exact ⟨plainId_quiet plain_eq_loop _, codeAny_builtin entry_eq_loop (by
          rw [Around.under_plainId plain_eq_loop _]
          exact ih (i + 1) (by omega) (by omega) (by omega) prog w A R _ ⟨hl, hb, h⟩)⟩
      · rw [if_neg e] at h
        rw [show (xs[i] == ys[i]) = false from by simpa using e]
        wp_walk using AutoSeq1.wpAny_loadPart' hl, AutoSeq1.wpAny_loadPart' hb
        rw [hi1', hi2']
        refine wpAny_bind (PyProof.Rows.lt_str ?_)
        wp_walk
        exact h
    · have hi2' : ws.toArray[((i : Nat) : Int).toNat]? = none := by simp; omega
      rw [lex_end hi hj (.inr (by omega))] at h
      rw [hi1', hi2']
      wp_walk using AutoSeq1.wpAny_loadPart' hl, AutoSeq1.wpAny_loadPart' hb
      show R (.ok (.ret (.bool (decide (vs.toArray.size < ws.toArray.size))))) _
      rw [List.size_toArray, List.size_toArray, lx, ly]
      exact h
theorem gt_loop (l b : Addr) (vs ws : List Value) (xs ys : List PySem.Str) (hx : StrsAre vs xs) (hy : StrsAre ws ys) (n n2 : Nat) (dd dd2 : Option Addr) (sl sl2 : Array (Option Value)) (k : Nat) :
    ∀ i : Nat, i ≤ xs.length → i ≤ ys.length → xs.length - i = k → Meets (Builtin.«list.__eq__.loop» ⟨[.ref l, .ref b, rawInt i, rawInt 4], []⟩)
      (fun A R s => s.heap.get? l = some { cls := .type "list", dict := dd, data := .seq vs.toArray n, slots := sl } ∧ s.heap.get? b = some { cls := .type "list", dict := dd2, data := .seq ws.toArray n2, slots := sl2 } ∧
        R (.ok (.ret (.bool (lexS (ys.drop i) (xs.drop i))))) s) := by
  have lx := hx.length
  have ly := hy.length
  induction k with
  | zero =>
    intro i hi hj hk prog w A R s h
    obtain ⟨hp, g, d, tk, os⟩ := s; obtain ⟨hl, hb, h⟩ := h
    rw [lex_end hj hi (.inr (by omega))] at h
    wp_walk using AutoSeq1.wpAny_loadPart' hl, AutoSeq1.wpAny_loadPart' hb
    have hi1 : vs.toArray[((i : Nat) : Int).toNat]? = none := by simp; omega
    rw [hi1]
    wp_walk using AutoSeq1.wpAny_loadPart' hl, AutoSeq1.wpAny_loadPart' hb
    show R (.ok (.ret (.bool (decide (vs.toArray.size > ws.toArray.size))))) _
    rw [List.size_toArray, List.size_toArray, lx, ly]
    exact h
  | succ k ih =>
    intro i hi hj hk prog w A R s h
    obtain ⟨hp, g, d, tk, os⟩ := s; obtain ⟨hl, hb, h⟩ := h
    wp_walk using AutoSeq1.wpAny_loadPart' hl, AutoSeq1.wpAny_loadPart' hb
    have hlt : i < xs.length := by omega
    obtain ⟨t, hi1⟩ := strs_some hx (List.getElem?_eq_getElem hlt)
    have hi1' : vs.toArray[((i : Nat) : Int).toNat]? = some (.str xs[i] t) := by simpa using hi1
    by_cases hlt2 : i < ys.length
    · obtain ⟨u, hi2⟩ := strs_some hy (List.getElem?_eq_getElem hlt2)
      have hi2' : ws.toArray[((i : Nat) : Int).toNat]? = some (.str ys[i] u) := by simpa using hi2
      have hc : ((i : Int) + 1) = ((i + 1 : Nat) : Int) := by push_cast; rfl
      rw [lex_drop (List.getElem?_eq_getElem hlt2) (List.getElem?_eq_getElem hlt)] at h
      rw [hi1', hi2']
      refine wpAny_bind (EqAt.str_str _ _ _ _ prog w _ _ ?_)
      by_cases e : xs[i] = ys[i]
      · rw [if_pos e.symm] at h
        rw [show (xs[i] == ys[i]) = true from by simpa using e]
        wp_walk
        rw [hc]
        exact ⟨plainId_quiet plain_eq_loop _, codeAny_builtin entry_eq_loop (by
          rw [Around.under_plainId plain_eq_loop _]
          exact ih (i + 1) (by omega) (by omega) (by omega) prog w A R _ ⟨hl, hb, h⟩)⟩
      · rw [if_neg (fun q => e q.symm)] at h
        rw [show (xs[i] == ys[i]) = false from by simpa using e]
        wp_walk using AutoSeq1.wpAny_loadPart' hl, AutoSeq1.wpAny_loadPart' hb
        rw [hi1', hi2']
        refine wpAny_bind (P.gt_str ?_)
        wp_walk
        exact h
    · have hi2' : ws.toArray[((i : Nat) : Int).toNat]? = none := by simp; omega
      rw [lex_end hj hi (.inl (by omega))] at h
      rw [hi1', hi2']
      wp_walk using AutoSeq1.wpAny_loadPart' hl, AutoSeq1.wpAny_loadPart' hb
      show R (.ok (.ret (.bool (decide (vs.toArray.size > ws.toArray.size))))) _
      rw [List.size_toArray, List.size_toArray, lx, ly]
      exact h
theorem list_ltAt (l b : Addr) (vs ws : List Value) (xs ys : List PySem.Str) (hx : StrsAre vs xs) (hy : StrsAre ws ys) (n n2 : Nat) (dd dd2 : Option Addr) (sl sl2 : Array (Option Value)) : Meets (Builtin.«list.__lt__» ⟨[.ref l, .ref b], []⟩)
      (fun _ R s => s.heap.get? l = some { cls := .type "list", dict := dd, data := .seq vs.toArray n, slots := sl } ∧ s.heap.get? b = some { cls := .type "list", dict := dd2, data := .seq ws.toArray n2, slots := sl2 } ∧
        R (.ok (.ret (.bool (lexS xs ys)))) s) := by
  intro prog w A R s h
  obtain ⟨hp, g, d, tk, os⟩ := s; obtain ⟨hl, hb, h⟩ := h
  have f3 := AutoSeq1.sub_list_list
  wp_walk using AutoSeq1.wpAny_loadPart' hl, AutoSeq1.wpAny_loadPart' hb
  exact ⟨plainId_quiet plain_eq_loop _, codeAny_builtin entry_eq_loop (by
    rw [Around.under_plainId plain_eq_loop _]
    exact lt_loop l b vs ws xs ys hx hy n n2 dd dd2 sl sl2 _ 0 (Nat.zero_le _) (Nat.zero_le _) rfl prog w A R _ ⟨hl, hb, h⟩)⟩
theorem list_gtAt (l b : Addr) (vs ws : List Value) (xs ys : List PySem.Str) (hx : StrsAre vs xs) (hy : StrsAre ws ys) (n n2 : Nat) (dd dd2 : Option Addr) (sl sl2 : Array (Option Value)) : Meets (Builtin.«list.__gt__» ⟨[.ref l, .ref b], []⟩)
      (fun _ R s => s.heap.get? l = some { cls := .type "list", dict := dd, data := .seq vs.toArray n, slots := sl } ∧ s.heap.get? b = some { cls := .type "list", dict := dd2, data := .seq ws.toArray n2, slots := sl2 } ∧
        R (.ok (.ret (.bool (lexS ys xs)))) s) := by
  intro prog w A R s h
  obtain ⟨hp, g, d, tk, os⟩ := s; obtain ⟨hl, hb, h⟩ := h
  have f3 := AutoSeq1.sub_list_list
  wp_walk using AutoSeq1.wpAny_loadPart' hl, AutoSeq1.wpAny_loadPart' hb
  exact ⟨plainId_quiet plain_eq_loop _, codeAny_builtin entry_eq_loop (by
    rw [Around.under_plainId plain_eq_loop _]
    exact gt_loop l b vs ws xs ys hx hy n n2 dd dd2 sl sl2 _ 0 (Nat.zero_le _) (Nat.zero_le _) rfl prog w A R _ ⟨hl, hb, h⟩)⟩
end
section
variable {prog : Program} {A : Around} {E : Value → Shared → Prop} {s : Shared} {Q : Value → Shared → Prop} {l b : Addr} {vs ws : List Value} {xs ys : List PySem.Str}
theorem lt_lists (hl : s.heap.IsList l vs.toArray) (hb : s.heap.IsList b ws.toArray) (hx : StrsAre vs xs) (hy : StrsAre ws ys) (hu : A.units < cLine) (h : Q (.bool (lexS xs ys)) s) : wpAny (model prog w) A (compareOp .Lt (.ref l) (.ref b)) Q E s := by
  obtain ⟨⟨cls, dd, data, sl⟩, ho, hc, n, hd⟩ := id hl
  obtain ⟨⟨cls2, dd2, data2, sl2⟩, ho2, hc2, n2, hd2⟩ := id hb
  simp only at hc hd hc2 hd2
  subst hc hd hc2 hd2
  exact richCompare_meets_room (op := .Lt) ⟨_, ho, rfl⟩ ⟨_, ho2, rfl⟩ F.slot_list_lt F.entry_list_lt (F.args_list_lt_2 _ _) (list_ltAt l b vs ws xs ys hx hy n n2 dd dd2 sl sl2)
    ⟨ho, ho2, show Value.bool (lexS xs ys) ≠ Value.notImplemented ∧ Q (.bool (lexS xs ys)) s from ⟨(fun x => nomatch x), h⟩⟩ hu
theorem gt_lists (hl : s.heap.IsList l vs.toArray) (hb : s.heap.IsList b ws.toArray) (hx : StrsAre vs xs) (hy : StrsAre ws ys) (hu : A.units < cLine) (h : Q (.bool (lexS ys xs)) s) : wpAny (model prog w) A (compareOp .Gt (.ref l) (.ref b)) Q E s := by
  obtain ⟨⟨cls, dd, data, sl⟩, ho, hc, n, hd⟩ := id hl
  obtain ⟨⟨cls2, dd2, data2, sl2⟩, ho2, hc2, n2, hd2⟩ := id hb
  simp only at hc hd hc2 hd2
  subst hc hd hc2 hd2
  exact richCompare_meets_room (op := .Gt) ⟨_, ho, rfl⟩ ⟨_, ho2, rfl⟩ F.slot_list_gt F.entry_list_gt (F.args_list_gt_2 _ _) (list_gtAt l b vs ws xs ys hx hy n n2 dd dd2 sl sl2)
    ⟨ho, ho2, show Value.bool (lexS ys xs) ≠ Value.notImplemented ∧ Q (.bool (lexS ys xs)) s from ⟨(fun x => nomatch x), h⟩⟩ hu
theorem ne_texts (hl : s.heap.IsList l vs.toArray) (hb : s.heap.IsList b ws.toArray) (hx : StrsAre vs xs) (hy : StrsAre ws xs) (hu : A.units < cLine) (h : Q (.bool false) s) : wpAny (model prog w) A (compareOp .NotEq (.ref l) (.ref b)) Q E s := by
  have lx := hx.length
  have ly := hy.length
  refine SeqAt.RcNeAt.lists (e := fun _ => true) hl hb (by simp; omega) hu (fun j h1 h2 => ?_) prog w E Q ?_
  · have hj : j < xs.length := by rw [List.size_toArray] at h1; omega
    obtain ⟨t, e1⟩ := strs_some hx (List.getElem?_eq_getElem hj)
    obtain ⟨u, e2⟩ := strs_some hy (List.getElem?_eq_getElem hj)
    rw [Array.getElem?_eq_getElem h1] at e1
    rw [Array.getElem?_eq_getElem h2] at e2
    rw [Option.some.inj e1, Option.some.inj e2]
    have := SeqAt.EqAt.str_str (A := A.in1) (s := s) xs[j] t xs[j] u
    rwa [beq_self_eq_true] at this
  · rw [List.all_eq_true.mpr fun _ _ => rfl]; exact h
theorem ne_ints {ns : List Int} (hl : s.heap.IsList l vs.toArray) (hb : s.heap.IsList b ws.toArray) (hx : IntsAre vs ns) (hy : IntsAre ws ns) (hu : A.units < cLine) (h : Q (.bool false) s) : wpAny (model prog w) A (compareOp .NotEq (.ref l) (.ref b)) Q E s := by
  have lx := hx.length
  have ly := hy.length
  refine SeqAt.RcNeAt.lists (e := fun _ => true) hl hb (by simp; omega) hu (fun j h1 h2 => ?_) prog w E Q ?_
  · obtain ⟨k, t, e1, k1⟩ := IntsAre.at hx j vs[j] (by simp only [List.size_toArray] at h1; simp [h1])
    obtain ⟨k', u, e2, k2⟩ := IntsAre.at hy j ws[j] (by simp only [List.size_toArray] at h2; simp [h2])
    rw [k1] at k2
    obtain rfl := Option.some.inj k2
    show SeqAt.EqAt A.in1 s vs[j] ws[j] true
    rw [e1, e2]
    have := SeqAt.EqAt.int_int (A := A.in1) (s := s) k t k u
    rwa [beq_self_eq_true] at this
  · rw [List.all_eq_true.mpr fun _ _ => rfl]; exact h
theorem eq_ints {ns : List Int} (hl : s.heap.IsList l vs.toArray) (hb : s.heap.IsList b ws.toArray) (hx : IntsAre vs ns) (hy : IntsAre ws ns) (hu : A.units < cLine) (h : Q (.bool true) s) : wpAny (model prog w) A (compareOp .Eq (.ref l) (.ref b)) Q E s := by
  have lx := hx.length
  have ly := hy.length
  refine SeqAt.RcAt.lists (e := fun _ => true) hl hb (by simp; omega) hu (fun j h1 h2 => ?_) prog w E Q ?_
  · obtain ⟨k, t, e1, k1⟩ := IntsAre.at hx j vs[j] (by simp only [List.size_toArray] at h1; simp [h1])
    obtain ⟨k', u, e2, k2⟩ := IntsAre.at hy j ws[j] (by simp only [List.size_toArray] at h2; simp [h2])
    rw [k1] at k2
    obtain rfl := Option.some.inj k2
    show SeqAt.EqAt A.in1 s vs[j] ws[j] true
    rw [e1, e2]
    have := SeqAt.EqAt.int_int (A := A.in1) (s := s) k t k u
    rwa [beq_self_eq_true] at this
  · rw [List.all_eq_true.mpr fun _ _ => rfl]; exact h
end

section
theorem calm_P21_cmpl : True := by
  w_top off
  k_with_none
  trivial
section
local macro_rules | `(tactic| walk_at "mine spare") => `(tactic| skip)
set_option hygiene false in
local macro_rules | `(tactic| walk_at "compareOp Gt ref ref") => `(tactic| (k_here; k_dflt (refine gt_lists (News.isList (by k_asm) ha) (News.isList (by k_asm) hb) ia ib (by first | k_units | ktr_units) ?_)))
set_option hygiene false in
local macro_rules | `(tactic| walk_at "compareOp Lt ref ref") => `(tactic| (k_here; k_dflt (refine lt_lists (News.isList (by k_asm) ha) (News.isList (by k_asm) hb) ia ib (by first | k_units | ktr_units) ?_)))
theorem cmp_texts (news : List (Addr × Obj)) (a b : Addr) (va vb : List Value) (xs ys : List PySem.Str) (na nb : Nat) (ha : (a, W.listOf va.toArray na) ∈ news) (hb : (b, W.listOf vb.toArray nb) ∈ news) (ia : StrsAre va xs) (ib : StrsAre vb ys) :
    Tell w mean mg mb 28 1 news [.ref a, .ref b] (OutV fun r => ∃ u, r = .int (cmpL xs ys) u) := by
  walk_at "mine start"
  k_steps
  all_goals exact hret _ [] _ _ (by assumption) (by assumption) (fun _ h => nomatch h) ⟨rfl, _, rfl⟩
end

end
section
open PyProof.Rows.LCg
variable {prog : Program} {w : World} {A : Around} {E : Value → Shared → Prop} {R : Result → Shared → Prop} {s : Shared} {h₀ : Heap} {L : Addr} {m : Str → Option Value} {env : Env}
theorem turn2_in (elt iter iter2 t1 t2 : PySem.Expr) (scope : Scope) (pos : Pos) (it acc : Value) (env : Env) :
    compTurn (.ListComp elt [⟨t1, iter, [], 0⟩, ⟨t2, iter2, [], 0⟩] scope pos) 1 it acc env = (standAt iter2.pos >>= fun _ => pyNext it >>= fun r => match r with
      | none => pure (.done .next)
      | some v => letOwnedTupleGo t2 it v >>= fun _ => assign t2 env v >>= fun _ =>
        (eval elt env >>= fun x => call (.builtin "list.append") [acc, x] >>= fun _ => pure ()) >>= fun _ =>
          again (.compLoop (.ListComp elt [⟨t1, iter, [], 0⟩, ⟨t2, iter2, [], 0⟩] scope pos) 1 it acc env)) := by rfl
theorem turn2_out (elt iter iter2 t1 t2 : PySem.Expr) (scope : Scope) (pos : Pos) (it acc : Value) (env : Env) :
    compTurn (.ListComp elt [⟨t1, iter, [], 0⟩, ⟨t2, iter2, [], 0⟩] scope pos) 0 it acc env = (standAt iter.pos >>= fun _ => pyNext it >>= fun r => match r with
      | none => pure (.done .next)
      | some v => letOwnedTupleGo t1 it v >>= fun _ => assign t1 env v >>= fun _ =>
        eval iter2 env >>= fun x => standAt iter2.pos >>= fun _ => foldedSetIterable iter2 env x >>= fun x => holding [x] (pyIter x) >>= fun q =>
          runOwn (.compStart (.ListComp elt [⟨t1, iter, [], 0⟩, ⟨t2, iter2, [], 0⟩] scope pos) 1 q acc env) env >>= fun _ =>
          again (.compLoop (.ListComp elt [⟨t1, iter, [], 0⟩, ⟨t2, iter2, [], 0⟩] scope pos) 0 it acc env)) := by rfl
theorem start2_in {elt iter iter2 t1 t2 : PySem.Expr} {scope : Scope} {pos : Pos} {it acc : Value} {env : Env}
    (h0 : codeAny (model prog w) A (.compLoop (.ListComp elt [⟨t1, iter, [], 0⟩, ⟨t2, iter2, [], 0⟩] scope pos) 1 it acc env) R s)
    (h : wpAny (model prog w) A (pyIter it) (fun it' s' => codeAny (model prog w) A (.compLoop (.ListComp elt [⟨t1, iter, [], 0⟩, ⟨t2, iter2, [], 0⟩] scope pos) 1 it' acc env) R s')
      (notedBy (model prog w) A env fun x s' => R (.error x) s') s) :
    codeAny (model prog w) A (.compStart (.ListComp elt [⟨t1, iter, [], 0⟩, ⟨t2, iter2, [], 0⟩] scope pos) 1 it acc env) R s := by
  refine codeAny_of_tree ?_
  show wpAny _ _ ((compStart (.ListComp elt [⟨t1, iter, [], 0⟩, ⟨t2, iter2, [], 0⟩] scope pos) 1 it acc env).onRaise (fun x => do noteFrame x env; standAt theWindowsPlace)) _ _ s
  refine wpAny_notedAt ?_
  unfold compStart
  show wpAny _ _ (ask >>= _) _ _ s
  refine wpAny_bind (wpAny_askSetting (wpAny_ite ?_))
  split
  · first
      | exact wpAny_bind (wpAny_pure (wpAny_pure (And.intro rfl h0)))
      | exact wpAny_pure (And.intro rfl h0)
  · refine wpAny_bind (wpAny_rule ?_)
    show wpAny _ _ (standAt iter2.pos >>= _) _ _ s
    exact wpAny_bind (wpAny_standAt (wpAny_bind (wpAny_mono h (fun it' s' h' => wpAny_pure (And.intro rfl h')) fun _ _ x => x)))
theorem loop2_in {elt iter iter2 t1 t2 : PySem.Expr} {scope : Scope} {pos : Pos} {it acc : Value} {env : Env} (I : Nat → Shared → Prop)
    (turn : ∀ n s, I n s → wpAny (model prog w) A (pyNext it) (fun r s₁ => match r with
      | none => R (.ok .next) s₁
      | some v => wpAny (model prog w) A (assign t2 env v) (fun _ s₂ => wpAny (model prog w) A (eval elt env) (fun x s₃ =>
          wpAny (model prog w) A (call (.builtin "list.append") [acc, x]) (fun _ s₄ => ∃ m, m < n ∧ I m s₄) (notedBy (model prog w) A env fun e s' => R (.error e) s') s₃)
          (notedBy (model prog w) A env fun e s' => R (.error e) s') s₂) (notedBy (model prog w) A env fun e s' => R (.error e) s') s₁) (notedBy (model prog w) A env fun e s' => R (.error e) s') s)
    (n : Nat) (h : I n s) (ht : ∀ v, letOwnedTupleGo t2 it v = pure () := by intro _; rfl) :
    codeAny (model prog w) A (.compLoop (.ListComp elt [⟨t1, iter, [], 0⟩, ⟨t2, iter2, [], 0⟩] scope pos) 1 it acc env) R s := by
  refine codeAny_loop rfl I (fun n s hI => ?_) n h
  show wpAny _ A ((compTurn (.ListComp elt [⟨t1, iter, [], 0⟩, ⟨t2, iter2, [], 0⟩] scope pos) 1 it acc env).onRaise (fun x => do noteFrame x env; theTreesLotGoes x)) _ _ s
  refine wpAny_noted ?_
  rw [turn2_in]
  refine wpAny_bind (wpAny_standAt (wpAny_bind (wpAny_mono (turn n s hI) (fun r s₁ h₁ => ?_) fun _ _ h' => h')))
  cases r with
  | none => exact wpAny_pure h₁
  | some v =>
    refine wpAny_bind (wpAny_of_eq (ht v) ?_)
    exact wpAny_bind (wpAny_mono h₁ (fun _ s₂ h₂ => wpAny_bind (wpAny_bind (wpAny_mono h₂ (fun x s₃ h₃ => wpAny_bind (wpAny_mono h₃
      (fun _ s₄ h₄ => wpAny_pure (wpAny_pure ⟨rfl, h₄⟩)) fun _ _ h' => h')) fun _ _ h' => h'))) fun _ _ h' => h')
theorem loop2_out {elt iter iter2 t1 t2 : PySem.Expr} {scope : Scope} {pos : Pos} {it acc : Value} {env : Env} (I : Nat → Shared → Prop) (E' : Value → Shared → Prop)
    (turn : ∀ n s, I n s → wpAny (model prog w) A (pyNext it) (fun r s₁ => match r with
      | none => R (.ok .next) s₁
      | some v => wpAny (model prog w) A (assign t1 env v) (fun _ s₂ => wpAny (model prog w) A (eval iter2 env) (fun x s₃ => wpAny (model prog w) A (pyIter x) (fun q s₄ =>
          codeAny (model prog w) A (.compStart (.ListComp elt [⟨t1, iter, [], 0⟩, ⟨t2, iter2, [], 0⟩] scope pos) 1 q acc env)
            (fun r s' => match r with | .ok _ => ∃ m, m < n ∧ I m s' | .error e => cameBackBy (model prog w) A env (notedBy (model prog w) A env fun e s' => R (.error e) s') e s') s₄)
          (notedBy (model prog w) A env fun e s' => R (.error e) s') s₃)
          (notedBy (model prog w) A env fun e s' => R (.error e) s') s₂) (notedBy (model prog w) A env fun e s' => R (.error e) s') s₁) (notedBy (model prog w) A env fun e s' => R (.error e) s') s)
    (n : Nat) (h : I n s) (hs : ∀ x, foldedSetIterable iter2 env x = pure x) (ht : ∀ v, letOwnedTupleGo t1 it v = pure () := by intro _; rfl) :
    codeAny (model prog w) A (.compLoop (.ListComp elt [⟨t1, iter, [], 0⟩, ⟨t2, iter2, [], 0⟩] scope pos) 0 it acc env) R s := by
  refine codeAny_loop rfl I (fun n s hI => ?_) n h
  show wpAny _ A ((compTurn (.ListComp elt [⟨t1, iter, [], 0⟩, ⟨t2, iter2, [], 0⟩] scope pos) 0 it acc env).onRaise (fun x => do noteFrame x env; theTreesLotGoes x)) _ _ s
  refine wpAny_noted ?_
  rw [turn2_out]
  refine wpAny_bind (wpAny_standAt (wpAny_bind (wpAny_mono (turn n s hI) (fun r s₁ h₁ => ?_) fun _ _ h' => h')))
  cases r with
  | none => exact wpAny_pure h₁
  | some v =>
    refine wpAny_bind (wpAny_of_eq (ht v) ?_)
    refine wpAny_bind (wpAny_mono h₁ (fun _ s₂ h₂ => wpAny_bind (wpAny_mono h₂ (fun x s₃ h₃ => wpAny_bind (wpAny_standAt (wpAny_bind (wpAny_of_eq (hs x) (wpAny_bind (wpAny_holding (wpAny_mono h₃ (fun q s₄ h₄ => ?_) fun _ _ h' => h'))))))) fun _ _ h' => h')) fun _ _ h' => h')
    refine wpAny_bind (wpAny_runOwn (h := none) ?_)
    rw [Around.mark_none]
    refine codeAny_mono h₄ fun r s' hr => ?_
    cases r with
    | ok f => exact wpAny_pure ⟨rfl, hr⟩
    | error e => exact hr
end

/-- what an element's evaluation leaves -/
def El2 (h₀ : Heap) (L : Addr) (m : Str → Option Value) (led : List (Addr × Obj)) (s₁ : Shared) (k : Int) (y : Value) (s₂ : Shared) : Prop :=
  ∃ h' tk t, s₂ = { s₁ with heap := h', toks := tk } ∧ Fr h₀ L h' m ∧ News h₀ L h' led ∧ y = .int k t
theorem El2.intro {h₀ h' : Heap} {L : Addr} {m : Str → Option Value} {led led' : List (Addr × Obj)} {s₁ : Shared} {k : Int} {tk : Nat} {t : Tok} (F : Fr h₀ L h' m) (N : News h₀ L h' led') (hs : ∀ p ∈ led, p ∈ led') :
    El2 h₀ L m led s₁ k (.int k t) { s₁ with heap := h', toks := tk } := ⟨h', tk, t, rfl, F, fun p hp => N p (hs p hp), rfl⟩
/-- the values vs stand for the things as -/
structure Stand {α : Type} (rel : α → Value → Prop) (vs : List Value) (as : List α) : Prop where
  len : vs.length = as.length
  at' : ∀ (i : Nat) (v : Value), vs[i]? = some v → ∃ a, as[i]? = some a ∧ rel a v
theorem Stand.ints {vs : List Value} {ns : List Int} (h : IntsAre vs ns) : Stand (fun n v => ∃ t, v = .int n t) vs ns :=
  ⟨h.length, fun i v hv => by obtain ⟨k, t, e, hk⟩ := IntsAre.at h i v hv; exact ⟨k, hk, t, e⟩⟩
theorem Stand.strs {vs : List Value} {ss : List PySem.Str} (h : StrsAre vs ss) : Stand (fun x v => ∃ t, v = .str x t) vs ss :=
  ⟨h.length, fun i v hv => by obtain ⟨y, t, e, hy⟩ := h.item i v hv; exact ⟨y, hy, t, e⟩⟩
theorem ints_snoc {n : Int} {t : Tok} {vs : List Value} {ns : List Int} (h : IntsAre vs ns) : IntsAre (vs ++ [.int n t]) (ns ++ [n]) := IntsAre.append h (.cons n t .nil)
section
open PyProof.Rows.LCg
variable {prog : Program} {w : World} {A : Around} {E : Value → Shared → Prop} {s : Shared} {h₀ : Heap} {L : Addr} {m : Str → Option Value} {env : Env}
/-- one element's contract for two clauses -/
def Turn2 {α β : Type} (prog : Program) (w : World) (A : Around) (h₀ : Heap) (L : Addr) (m : Str → Option Value) (env : Env) (elt : PySem.Expr) (x y : Str) (scope : Scope) (cl : List (Str × Addr)) (s₂ : Shared) (ra : α → Value → Prop) (rb : β → Value → Prop) (as : List α) (bs : List β) (g : α → β → Int) (news : List (Addr × Obj)) : Prop :=
  ∀ a b v u I oI J oJ C oC D m₂ ys h tk (E' : Value → Shared → Prop), a ∈ as → b ∈ bs → ra a v → rb b u → NsObj oC m₂ → m₂ x = some v → m₂ y = some u → Fr h₀ L h m → News h₀ L h ((J, oJ) :: (I, oI) :: (C, oC) :: (D, lst ys) :: news) →
    wpAny (model prog w) A (eval elt (compEnvC scope cl C env)) (El2 h₀ L m ((J, oJ) :: (I, oI) :: (C, oC) :: (D, lst ys) :: news) { s₂ with heap := h, toks := tk } (g a b)) E' { s₂ with heap := h, toks := tk }
def prodF {α β : Type} (g : α → β → Int) (as : List α) (bs : List β) : List Int := as.flatMap fun a => bs.map (g a)
theorem prodF_len {α β : Type} (g : α → β → Int) (bs : List β) : ∀ as : List α, (prodF g as bs).length = as.length * bs.length
  | [] => by simp [prodF]
  | a :: as => by
    have ih := prodF_len g bs as
    simp only [prodF, List.flatMap_cons, List.length_append, List.length_map, List.length_cons] at ih ⊢
    rw [ih, Nat.add_mul]; omega
/-- the state between the turns -/
structure C2 (h₀ : Heap) (L : Addr) (m : Str → Option Value) (news : List (Addr × Obj)) (I ax : Addr) (i : Nat) (C : Addr) (m' : Str → Option Value) (D : Addr) (ys : List Value) (h : Heap) : Prop where
  F : Fr h₀ L h m
  N : News h₀ L h ((D, lst ys) :: news)
  it : h.IsListIter I ax i
  ns : h.Ns C m'
theorem C2.ext {news : List (Addr × Obj)} {I ax : Addr} {i : Nat} {C : Addr} {m' : Str → Option Value} {D : Addr} {ys : List Value} {h h' : Heap} {J : Addr} (c : C2 h₀ L m news I ax i C m' D ys h) (hk : ∀ b o, b ∉ [J] → h.get? b = some o → h'.get? b = some o)
    (jL : L ≠ J) (jD : D ≠ J) (jI : I ≠ J) (jC : C ≠ J) (jn : ∀ p ∈ news, p.1 ≠ J) (j0 : h₀.get? J = none) : C2 h₀ L m news I ax i C m' D ys h' :=
  ⟨fr_but c.F hk jL j0, news_but c.N hk fun p hp => by
    rcases List.mem_cons.mp hp with rfl | hp
    · exact jD
    · exact jn p hp, c.it.at fun o e => hk _ o (by simpa using jI) e, c.ns.at' fun o e => hk _ o (by simpa using jC) e⟩
theorem block2 {α β : Type} {ra : α → Value → Prop} {rb : β → Value → Prop} {as : List α} {bs : List β} {g : α → β → Int} {elt iter iter2 : PySem.Expr} {x y : Str} {px py : Pos} {scope : Scope} {cl : List (Str × Addr)} {pos : Pos} {s₂ : Shared} {I ax ay : Addr} {va vb : List Value} {na nb : Nat} {news : List (Addr × Obj)}
    {RR : Value → Addr → Result → Shared → Prop}
    (hh : A.handled = none) (sa : Stand ra va as) (sb : Stand rb vb bs) (hma : (ax, W.listOf va.toArray na) ∈ news) (hmb : (ay, W.listOf vb.toArray nb) ∈ news) (hsz : as.length * bs.length ≤ sizeLine)
    (hcell : ∀ z ∈ scope.names, z.2 ≠ .cell) (hkind : scope.kind = .function) (hx : scope.names.lookup x = some .local) (hy : scope.names.lookup y = some .local) (hxy : x ≠ y) (hit : s₂.heap.IsListIter I ax 0)
    (F : Fr h₀ L s₂.heap m) (N : News h₀ L s₂.heap news) (hIL : L ≠ I) (hI₀ : h₀.get? I = none) (off : ∀ p ∈ news, p.1 ≠ I)
    (hs2 : ∀ C v, foldedSetIterable iter2 (compEnvC scope cl C env) v = pure v)
    (src : ∀ C h tk (E' : Value → Shared → Prop) (Q' : Value → Shared → Prop), News h₀ L h news → Q' (.ref ay) { s₂ with heap := h, toks := tk } → wpAny (model prog w) A (eval iter2 (compEnvC scope cl C env)) Q' E' { s₂ with heap := h, toks := tk })
    (T : Turn2 prog w A h₀ L m env elt x y scope cl s₂ ra rb as bs g news)
    (hRR : ∀ D C h tk m' ys, Fr h₀ L h m → News h₀ L h ((D, lst ys) :: news) → Off1 D news → h.Ns C m' → h₀.get? C = none → h₀.get? D = none → C ≠ L → D ≠ L → C ≠ D → (∀ p ∈ news, p.1 ≠ C) → IntsAre ys (prodF g as bs) → RR (.ref D) C (.ok .next) { s₂ with heap := h, toks := tk }) :
    wpAny (model prog w) A (newList []) (fun acc s₃ => wpAny (model prog w) A (newFunctionEnv scope env.globals cl [] env.qual none .none (some env)) (fun cenv s₄ =>
      codeAny (model prog w) A (.compStart (.ListComp elt [⟨.Name x px, iter, [], 0⟩, ⟨.Name y py, iter2, [], 0⟩] scope pos) 0 (.ref I) acc { cenv with scope := relabel scope env }) (RR acc cenv.locals) s₄) E s₃) E s₂ := by
  refine wpAny_newObj_type (wpAny_newFunctionEnv hcell (by intro y hy; simp at hy) (fun h₁ hns₁ hsb₁ => ?_) hkind)
  dsimp only at hns₁ hsb₁ ⊢
  generalize hH2 : s₂.heap.push { cls := .type "list", dict := none, data := .seq ([] : List Value).toArray } = H2 at hns₁ hsb₁ ⊢
  have hC : H2.objs.size = s₂.heap.objs.size + 1 := by rw [← hH2, Heap.size_push]
  have below : ∀ b, b < s₂.heap.objs.size → b ≠ H2.objs.size ∧ b ≠ s₂.heap.objs.size := fun b hb => ⟨by rw [hC]; exact Nat.ne_of_lt (Nat.lt_succ_of_lt hb), Nat.ne_of_lt hb⟩
  have hDC : s₂.heap.objs.size ≠ H2.objs.size := by rw [hC]; exact Nat.ne_of_lt (Nat.lt_succ_self _)
  have hIlt : I < s₂.heap.objs.size := by obtain ⟨o, e, _⟩ := hit; exact Heap.lt_size e
  have old : ∀ b o, s₂.heap.get? b = some o → h₁.get? b = some o := fun b o e => hsb₁.extBut b o (below b (Heap.lt_size e)).1 (Heap.get?_push_of_some _ (hH2 ▸ Heap.get?_push_of_some _ e))
  have hacc : h₁.get? s₂.heap.objs.size = some (lst []) := hsb₁.extBut _ _ hDC (Heap.get?_push_of_some _ (hH2 ▸ Heap.get?_push_size _ rfl))
  have fresh : ∀ a, s₂.heap.objs.size ≤ a → s₂.heap.get? a = none := fun a ha => by
    cases e : s₂.heap.get? a with
    | none => rfl
    | some o' => exact absurd (Heap.lt_size e) (Nat.not_lt.mpr ha)
  have fresh₀ : ∀ a, s₂.heap.objs.size ≤ a → h₀.get? a = none := fun a ha => by
    cases e : h₀.get? a with
    | none => rfl
    | some o' => have := F.keep a o' e; rw [fresh a ha] at this; cases this
  have hD₀ : h₀.get? s₂.heap.objs.size = none := fresh₀ _ (Nat.le_refl _)
  have hC₀ : h₀.get? H2.objs.size = none := fresh₀ _ (by rw [hC]; exact Nat.le_succ _)
  have hLlt : L < s₂.heap.objs.size := F.ns.lt
  have hDL : s₂.heap.objs.size ≠ L := Ne.symm (below L hLlt).2
  have hCL : H2.objs.size ≠ L := Ne.symm (below L hLlt).1
  have hCI : I ≠ H2.objs.size := (below I hIlt).1
  have hDI : I ≠ s₂.heap.objs.size := (below I hIlt).2
  have offC : ∀ p ∈ news, p.1 ≠ H2.objs.size := fun p hp => (below _ (Heap.lt_size (N p hp).1)).1
  have offD : ∀ p ∈ news, p.1 ≠ s₂.heap.objs.size := fun p hp => (below _ (Heap.lt_size (N p hp).1)).2
  have off1 : Off1 s₂.heap.objs.size news := (Off3.of (I := s₂.heap.objs.size) (C := s₂.heap.objs.size) fun p hp => ⟨offD p hp, offD p hp, offD p hp⟩).one
  have st₁ : C2 h₀ L m news I ax 0 H2.objs.size _ s₂.heap.objs.size [] h₁ := ⟨F.keeps old, fun p hp => by
    rcases List.mem_cons.mp hp with rfl | hp
    · exact ⟨hacc, hDL, hD₀⟩
    · exact ⟨old _ _ (N p hp).1, (N p hp).2⟩, hit.at fun o e => old _ o e, hns₁⟩
  clear below fresh fresh₀ hacc hns₁ hsb₁ hLlt hIlt
  generalize s₂.heap.objs.size = D at hDC hD₀ hDL hDI offD off1 st₁ ⊢
  generalize H2.objs.size = C at hDC hC₀ hCL hCI offC st₁ ⊢
  have la := sa.len
  have lb := sb.len
  have loop : ∀ s₃ : Shared, (∃ tk, s₃ = { s₂ with heap := h₁, toks := tk }) →
      codeAny (model prog w) A (.compLoop (.ListComp elt [⟨.Name x px, iter, [], 0⟩, ⟨.Name y py, iter2, [], 0⟩] scope pos) 0 (.ref I) (.ref D) (compEnvC scope cl C env)) (RR (.ref D) C) s₃ := by
    rintro s₃ ⟨tk₀, rfl⟩
    refine loop2_out (fun k s' => ∃ h' tk i ys m', s' = { s₂ with heap := h', toks := tk } ∧ i ≤ va.length ∧ k = va.length + 1 - i ∧ C2 h₀ L m news I ax i C m' D ys h' ∧ IntsAre ys (prodF g (as.take i) bs)) E ?_ (va.length + 1)
      ⟨h₁, tk₀, 0, [], _, rfl, Nat.zero_le _, rfl, st₁, .nil⟩ (hs2 C)
    rintro k s' ⟨h', tk, i, ys, m', rfl, hi, rfl, c, iy⟩
    have Wa : Walks prog w A I [I, ax] [I] va.toArray.size _ _ := Walks.list hh I ax (off _ hma) va.toArray
    have lstA : h'.IsList ax va.toArray := ⟨_, (c.N _ (List.mem_cons_of_mem _ hma)).1, rfl, _, rfl⟩
    by_cases hlt : i < va.length
    · refine Wa.item i _ _ _ (by simpa using hlt) ⟨c.it, lstA⟩ fun v h₂ tk₂ hPv hst₂ hk₂ => ?_
      have hPv' : va[i]? = some v := by simpa using hPv
      obtain ⟨a, ha, hra⟩ := sa.at' i v hPv'
      have F₂ := fr_but c.F hk₂ hIL hI₀
      have N₂ : News h₀ L h₂ ((D, lst ys) :: news) := news_but c.N hk₂ fun p hp => by
        rcases List.mem_cons.mp hp with rfl | hp
        · exact Ne.symm hDI
        · exact off p hp
      have ns₂ : h₂.Ns C m' := c.ns.at' fun o e => hk₂ _ o (by simpa using Ne.symm hCI) e
      refine wpAny_assign_Name (wpAny_storeName_local (lookup_relabel_local hx) ns₂ (fun h₃ ns₃ sb₃ => ?_) (by simp [compEnvC, relabel, hkind]))
      have c₃ : C2 h₀ L m news I ax (i + 1) C _ D ys h₃ := ⟨F₂.change sb₃ hCL hC₀, fun p hp => ⟨sb₃.extBut _ _ (by
        rcases List.mem_cons.mp hp with rfl | hp
        · exact hDC
        · exact offC p hp) (N₂ p hp).1, (N₂ p hp).2⟩, hst₂.1.at fun o e => sb₃.extBut _ _ hCI e, ns₃⟩
      refine src C h₃ _ _ _ (fun p hp => c₃.N p (List.mem_cons_of_mem _ hp)) ?_
      have lstB : h₃.IsList ay vb.toArray := ⟨_, (c₃.N _ (List.mem_cons_of_mem _ hmb)).1, rfl, _, rfl⟩
      refine wpAny_pyIter_list lstB ?_
      have up : ∀ b o, h₃.get? b = some o → (h₃.push { cls := .type "list_iterator", data := .fields #[.ref ay, .int 0 0] }).get? b = some o := fun b o e => Heap.get?_push_of_some _ e
      have jlt : ∀ b o, h₃.get? b = some o → b ≠ h₃.objs.size := fun b o e => Nat.ne_of_lt (Heap.lt_size e)
      have jD : D ≠ h₃.objs.size := jlt _ _ (c₃.N _ List.mem_cons_self).1
      have jn : ∀ p ∈ news, p.1 ≠ h₃.objs.size := fun p hp => jlt _ _ (c₃.N p (List.mem_cons_of_mem _ hp)).1
      have jI : I ≠ h₃.objs.size := by obtain ⟨o, e, _⟩ := c₃.it; exact jlt _ _ e
      have jC : C ≠ h₃.objs.size := Nat.ne_of_lt c₃.ns.lt
      have jL : L ≠ h₃.objs.size := Nat.ne_of_lt c₃.F.ns.lt
      have j0 : h₀.get? h₃.objs.size = none := next_is_new c₃.F
      have hitJ : (h₃.push { cls := .type "list_iterator", data := .fields #[.ref ay, .int 0 0] }).IsListIter h₃.objs.size ay 0 := ⟨_, Heap.get?_push_size _ rfl, rfl, rfl⟩
      have c₄ : C2 h₀ L m news I ax (i + 1) C _ D ys (h₃.push { cls := .type "list_iterator", data := .fields #[.ref ay, .int 0 0] }) :=
        ⟨c₃.F.keeps up, c₃.N.grown up, c₃.it.at fun o e => up _ o e, c₃.ns.keeps up⟩
      clear up jlt
      generalize h₃.objs.size = J at jD jn jI jC jL j0 hitJ ⊢
      generalize h₃.push { cls := .type "list_iterator", data := .fields #[.ref ay, .int 0 0] } = h₄ at hitJ c₄ ⊢
      have inner : ∀ s₅ : Shared, (∃ tk, s₅ = { s₂ with heap := h₄, toks := tk }) →
          codeAny (model prog w) A (.compLoop (.ListComp elt [⟨.Name x px, iter, [], 0⟩, ⟨.Name y py, iter2, [], 0⟩] scope pos) 1 (.ref J) (.ref D) (compEnvC scope cl C env))
            (fun r s' => match r with | .ok _ => ∃ mm, mm < va.length + 1 - i ∧ (∃ h' tk i ys m', s' = { s₂ with heap := h', toks := tk } ∧ i ≤ va.length ∧ mm = va.length + 1 - i ∧ C2 h₀ L m news I ax i C m' D ys h' ∧ IntsAre ys (prodF g (as.take i) bs)) | .error e => cameBackBy (model prog w) A (compEnvC scope cl C env) (notedBy (model prog w) A (compEnvC scope cl C env) fun e s' => RR (.ref D) C (.error e) s') e s') s₅ := by
        rintro s₅ ⟨tk₅, rfl⟩
        refine loop2_in (fun k s' => ∃ h' tk j zs m'', s' = { s₂ with heap := h', toks := tk } ∧ j ≤ vb.length ∧ k = vb.length + 1 - j ∧ C2 h₀ L m news I ax (i + 1) C m'' D zs h' ∧ m'' x = some v ∧ h'.IsListIter J ay j ∧ IntsAre zs (prodF g (as.take i) bs ++ (bs.take j).map (g a))) ?_ (vb.length + 1)
          ⟨h₄, tk₅, 0, ys, _, rfl, Nat.zero_le _, rfl, c₄, by simp, hitJ, by simpa using iy⟩
        rintro k s' ⟨h', tk, j, zs, m'', rfl, hj, rfl, d, hmx, jt, iz⟩
        have Wb : Walks prog w A J [J, ay] [J] vb.toArray.size _ _ := Walks.list hh J ay (jn _ hmb) vb.toArray
        have lstB' : h'.IsList ay vb.toArray := ⟨_, (d.N _ (List.mem_cons_of_mem _ hmb)).1, rfl, _, rfl⟩
        by_cases hlt2 : j < vb.length
        · refine Wb.item j _ _ _ (by simpa using hlt2) ⟨jt, lstB'⟩ fun u h₅ tk₆ hPu hst₅ hk₅ => ?_
          have hPu' : vb[j]? = some u := by simpa using hPu
          obtain ⟨b, hb, hrb⟩ := sb.at' j u hPu'
          have d₅ := d.ext hk₅ jL jD jI jC jn j0
          refine wpAny_assign_Name (wpAny_storeName_local (lookup_relabel_local hy) d₅.ns (fun h₆ ns₆ sb₆ => ?_) (by simp [compEnvC, relabel, hkind]))
          have d₆ : C2 h₀ L m news I ax (i + 1) C _ D zs h₆ := ⟨d₅.F.change sb₆ hCL hC₀, fun p hp => ⟨sb₆.extBut _ _ (by
            rcases List.mem_cons.mp hp with rfl | hp
            · exact hDC
            · exact offC p hp) (d₅.N p hp).1, (d₅.N p hp).2⟩, d₅.it.at fun o e => sb₆.extBut _ _ hCI e, ns₆⟩
          have jt₆ : h₆.IsListIter J ay (j + 1) := hst₅.1.at fun o e => sb₆.extBut _ _ (Ne.symm jC) e
          obtain ⟨oI, heI, hIr⟩ := id d₆.it
          obtain ⟨oJ, heJ, hJr⟩ := id jt₆
          obtain ⟨oC, heC, hoC⟩ := ns_obj d₆.ns
          have N₆ : News h₀ L h₆ ((J, oJ) :: (I, oI) :: (C, oC) :: (D, lst zs) :: news) := fun p hp => by
            rcases List.mem_cons.mp hp with rfl | hp
            · exact ⟨heJ, Ne.symm jL, j0⟩
            · rcases List.mem_cons.mp hp with rfl | hp
              · exact ⟨heI, Ne.symm hIL, hI₀⟩
              · rcases List.mem_cons.mp hp with rfl | hp
                · exact ⟨heC, hCL, hC₀⟩
                · exact d₆.N p hp
          refine wpAny_mono (T a b v u I oI J oJ C oC D _ zs h₆ _ _ (List.mem_of_getElem? ha) (List.mem_of_getElem? hb) hra hrb hoC (by simp [hxy, hmx]) (by simp) d₆.F N₆) (fun r s₇ h₇ => ?_) fun _ _ e => e
          obtain ⟨h₇, tk₇, t, rfl, F₇, N₇, rfl⟩ := h₇
          have zJ := (N₇ (J, oJ) List.mem_cons_self).1
          have zI := (N₇ (I, oI) (List.mem_cons_of_mem _ List.mem_cons_self)).1
          have zC := (N₇ (C, oC) (List.mem_cons_of_mem _ (List.mem_cons_of_mem _ List.mem_cons_self))).1
          have zD := (N₇ (D, lst zs) (List.mem_cons_of_mem _ (List.mem_cons_of_mem _ (List.mem_cons_of_mem _ List.mem_cons_self)))).1
          have zn : ∀ p ∈ news, h₇.get? p.1 = some p.2 := fun p hp => (N₇ p (List.mem_cons_of_mem _ (List.mem_cons_of_mem _ (List.mem_cons_of_mem _ (List.mem_cons_of_mem _ hp))))).1
          refine append_at (hsz := by
            show zs.toArray.size ≤ sizeLine
            have e1 := iz.length
            rw [List.length_append, prodF_len, List.length_take, List.length_map, List.length_take, Nat.min_eq_left (by omega), Nat.min_eq_left (by omega)] at e1
            have e2 := Nat.mul_le_mul_right bs.length (show i + 1 ≤ as.length by omega)
            rw [Nat.add_mul, Nat.one_mul] at e2
            rw [List.size_toArray]; omega) zD fun h₈ hs₈ hD₈ => ?_
          refine ⟨vb.length + 1 - (j + 1), by omega, h₈, tk₇, j + 1, zs ++ [.int (g a b) t], _, rfl, hlt2, rfl, ⟨F₇.change hs₈ hDL hD₀, fun p hp => ?_, ⟨oI, hs₈.extBut _ _ hDI zI, hIr⟩, (hoC.ns zC).sameBut hs₈ (Ne.symm hDC)⟩, by simp [hxy, hmx], ⟨oJ, hs₈.extBut _ _ (Ne.symm jD) zJ, hJr⟩, ?_⟩
          · rcases List.mem_cons.mp hp with rfl | hp
            · exact ⟨hD₈.trans (congrArg some (lst_snoc zs _)), hDL, hD₀⟩
            · exact ⟨hs₈.extBut _ _ (offD p hp) (zn p hp), (N p hp).2⟩
          · rw [List.take_add_one, hb]
            simpa using ints_snoc iz
        · obtain rfl : j = vb.length := Nat.le_antisymm hj (Nat.not_lt.mp hlt2)
          refine Wb.done _ _ _ (by simpa using ⟨jt, lstB'⟩) fun h₅ tk₆ hk₅ => ?_
          refine ⟨va.length + 1 - (i + 1), by omega, h₅, tk₆, i + 1, zs, m'', rfl, hlt, rfl, d.ext hk₅ jL jD jI jC jn j0, ?_⟩
          rw [show bs.take vb.length = bs from List.take_of_length_le (by omega)] at iz
          rw [List.take_add_one, ha]
          simpa [prodF] using iz
      exact start2_in (inner _ ⟨_, rfl⟩) (wpAny_pyIter_listiter hitJ (inner _ ⟨_, rfl⟩))
    · obtain rfl : i = va.length := Nat.le_antisymm hi (Nat.not_lt.mp hlt)
      refine Wa.done _ _ _ (by simpa using ⟨c.it, lstA⟩) fun h₂ tk₂ hk₂ => ?_
      have N₂ : News h₀ L h₂ ((D, lst ys) :: news) := news_but c.N hk₂ fun p hp => by
        rcases List.mem_cons.mp hp with rfl | hp
        · exact Ne.symm hDI
        · exact off p hp
      rw [List.take_of_length_le (by omega)] at iy
      exact hRR D C h₂ tk₂ m' ys (fr_but c.F hk₂ hIL hI₀) N₂ off1 (c.ns.at' fun o e => hk₂ _ o (by simpa using Ne.symm hCI) e) hC₀ hD₀ hCL hDL (Ne.symm hDC) offC iy
  exact codeAny_compStart_list (loop _ ⟨_, rfl⟩) (wpAny_pyIter_listiter st₁.it (loop _ ⟨_, rfl⟩))
theorem ListComp2 {α β : Type} {ra : α → Value → Prop} {rb : β → Value → Prop} {as : List α} {bs : List β} (g : α → β → Int) {elt iter iter2 : PySem.Expr} {x y : Str} {px py : Pos} {scope : Scope} {cl : List (Str × Addr)} {pos : Pos} {ax ay : Addr} {va vb : List Value} {na nb : Nat} {news : List (Addr × Obj)} {Q : Value → Shared → Prop}
    (hh : A.handled = none) (sa : Stand ra va as) (sb : Stand rb vb bs) (F : Fr h₀ L s.heap m) (N : News h₀ L s.heap news) (hma : (ax, W.listOf va.toArray na) ∈ news) (hmb : (ay, W.listOf vb.toArray nb) ∈ news) (hsz : as.length * bs.length ≤ sizeLine)
    (hclos : closureFor scope env = pure cl) (hcell : ∀ z ∈ scope.names, z.2 ≠ .cell) (hkind : scope.kind = .function)
    (hnames : ∀ z ∈ scope.names, z.2 = .local → scope.names.lookup z.1 = some .local) (hx : scope.names.lookup x = some .local) (hy : scope.names.lookup y = some .local) (hxy : x ≠ y)
    (hit : ∀ Q' : Value → Shared → Prop, Q' (.ref ax) s → wpAny (model prog w) A (eval iter env) Q' E s)
    (src : ∀ C h tk (E' : Value → Shared → Prop) (Q' : Value → Shared → Prop), News h₀ L h news → Q' (.ref ay) { s with heap := h, toks := tk } → wpAny (model prog w) A (eval iter2 (compEnvC scope cl C env)) Q' E' { s with heap := h, toks := tk })
    (T : Turn2 prog w A h₀ L m env elt x y scope cl s ra rb as bs g news)
    (fin : ∀ D h tk ys, Fr h₀ L h m → News h₀ L h ((D, lst ys) :: news) → Off1 D news → IntsAre ys (prodF g as bs) → Q (.ref D) { s with heap := h, toks := tk })
    (hs : ∀ x, foldedSetIterable iter env x = pure x := by intro _; rfl) (hs2 : ∀ C v, foldedSetIterable iter2 (compEnvC scope cl C env) v = pure v := by intro _ _; rfl) :
    wpAny (model prog w) A (eval (.ListComp elt [⟨.Name x px, iter, [], 0⟩, ⟨.Name y py, iter2, [], 0⟩] scope pos) env) Q E s := by
  rw [eval_ListComp]
  refine wpAny_comprehension_free (use := none) rfl hs hclos hkind hnames (hit _ ?_)
  have hl : s.heap.IsList ax va.toArray := ⟨_, (N _ hma).1, rfl, _, rfl⟩
  refine wpAny_pyIter_list hl ?_
  have up : ∀ b o, s.heap.get? b = some o → (s.heap.push { cls := .type "list_iterator", data := .fields #[.ref ax, .int 0 0] }).get? b = some o := fun b o e => Heap.get?_push_of_some _ e
  refine block2 (s₂ := { s with heap := s.heap.push { cls := .type "list_iterator", data := .fields #[.ref ax, .int 0 0] } }) (RR := fun acc C => compPost (model prog w) A E none Q acc C) hh sa sb hma hmb hsz hcell hkind hx hy hxy ⟨_, Heap.get?_push_size _ rfl, rfl, rfl⟩
    (F.keeps up) (N.grown up) (Nat.ne_of_lt F.ns.lt) (next_is_new F) (fun p hp => Nat.ne_of_lt (Heap.lt_size (N p hp).1)) hs2 src T ?_
  intro D C h tk m' ys F' N' o1 hn hC₀ hD₀ hCL hDL hCD offC iy
  refine ⟨m', hn, fun h'' hs'' => fin D h'' tk ys (F'.change hs'' hCL hC₀) (fun p hp => ?_) o1 iy⟩
  refine ⟨hs''.extBut _ _ ?_ (N' p hp).1, (N' p hp).2⟩
  rcases List.mem_cons.mp hp with rfl | hp
  · exact Ne.symm hCD
  · exact offC p hp
end

theorem calm_P30_law : True := by
  w_top off
  k_with_none
  trivial
theorem TellB.use {w : World} {mean : ExcName → Option Value} {mg mb : Str → Option Value} {f : Addr} {d : Nat} {news : List (Addr × Obj)} {l : Addr} {vs : List Value} {ns : List Int} {args : List Value} {Out : Value → List (Addr × Obj) → Prop}
    {dp un : Nat} {gd : Option (List Code)} {cn : Str} {cs : Scope} {a : Addr} {ccd : Value} {cl : List (Str × Addr)} {outer : List Env} {A₀ : Around} {base h₀ : Heap} {L : Addr} {m : Str → Option Value} {s : Shared} {Q E : Value → Shared → Prop}
    (B : Below A₀ base outer h₀) (F : Fr h₀ L s.heap m) (X : (hd.heap_39 w.params).In h₀) (N : News h₀ L s.heap news) (T : Top hd.view_39 (looseW hd.view_39 []) mean mg mb h₀) (C : TellB w mean mg mb f d news l vs ns args Out) (hk : cs.kind = .function)
    (hl : base.IsList l vs.toArray) (hi : IntsAre vs ns) (hf : ns.length ≤ 2 ^ 20) (hd : dp + d < recursionLimit) (hu : un + 8 * d < cLine)
    (ret : ∀ (r : Value) (new : List (Addr × Obj)) (h' : Heap) (tk' : Nat), Fr h₀ L h' m → News h₀ L h' (new ++ news) → (∀ q ∈ new, ∀ p ∈ news, p.1 < q.1) → Out r new → Q r { s with heap := h', toks := tk' }) :
    wpAny (model PySem.Challenge.rw_mj0090_01.row.prog w) (ktrTop dp un gd cn cs L a ccd cl outer) (call (.ref f) (.ref l :: args)) Q E s :=
  C _ _ _ _ _ _ _ _ _ _ _ _ _ _ _ _ _ B F X N T hk hl hi hf hd hu ret
structure Rv (ra : List Int) : Prop where
  cd : ∀ a ∈ ra, Cd a
  len : ra.length ≤ 13
structure Rw (ra : List Int) : Prop extends Rv ra where
  pos : 0 < ra.length
theorem rw_a (ns : List Int) : Rw (rowA (ns.take 12)) := ⟨⟨rowA_in, Nat.le_trans (rowA_len _) (by rw [List.length_take]; omega)⟩, Nat.succ_pos _⟩
theorem rw_b (ns : List Int) : Rw (rowB (ns.take 12)) := ⟨⟨rowB_in, Nat.le_trans (rowB_len _) (by rw [List.length_take]; omega)⟩, Nat.succ_pos _⟩
theorem rows_open {ns : List Int} {r : Value} {new : List (Addr × Obj)} (h : RowsOut ns r new) : ∃ (A B T : Addr) (va vb : List Value) (na nb : Nat) (ra rb : List Int), A < B ∧ B < T ∧ r = .ref T ∧ new = [(T, tupOf [.ref A, .ref B]), (B, W.listOf vb.toArray nb), (A, W.listOf va.toArray na)] ∧ IntsAre va ra ∧ IntsAre vb rb ∧ Rw ra ∧ Rw rb := by
  obtain ⟨A, B, T, va, vb, na, nb, h1, h2, h3, h4, h5, h6⟩ := h
  exact ⟨A, B, T, va, vb, na, nb, _, _, h1, h2, h3, h4, h5, h6, rw_a ns, rw_b ns⟩
set_option hygiene false in
local macro_rules | `(tactic| walk_at "mine ks") => `(tactic| ((case k1 => k_asm); (case k2 => k_asm); (case k3 => k_asm); (case k4 => k_asm); (case k5 => k_asm); (case k6 => first | exact rfl | assumption); (case kd => ktr_room); (case ku => ktr_units)))
set_option hygiene false in
local macro_rules | `(tactic| walk_at "mine in1") => `(tactic| (intro r9 new9 h9 tk9 F9 N9 lt9 hO9; obtain ⟨rfl, hO9⟩ := hO9; clear lt9; (simp only [List.nil_append] at N9); obtain ⟨u9, hO9⟩ := hO9; subst hO9; (try dsimp only); (try k_fold)))
set_option hygiene false in
local macro_rules | `(tactic| walk_at "call ref") => `(tactic| (k_here; (with_reducible show wpAny _ _ (call (Value.ref 70) _) _ _ _); k_dflt (refine' TellB.use ?k1 ?k2 ?k3 ?k4 ?k5 (rows_ints _ _ _ _) ?k6 ?kl ?ki ?kf ?kd ?ku ?_); (k_dflt ((case k1 => k_asm); (case k2 => k_asm); (case k3 => k_asm); (case k4 => k_asm); (case k5 => k_asm); (case k6 => first | exact rfl | assumption))); (k_dflt ((case kl => assumption); (case ki => assumption); (case kf => omega); (case kd => ktr_room); (case ku => ktr_units))); (k_dflt (intro r9 new9 h9 tk9 F9 N9 lt9 hO9)); (k_dflt (obtain ⟨rA, rB, rT, va, vb, na, nb, ra, rb, ltAB, ltBT, hr9, hn9, ia, ib, cA, cB⟩ := rows_open hO9)); (k_dflt (subst hr9; subst hn9; clear hO9)); (k_dflt (simp only [List.forall_mem_cons, List.not_mem_nil, false_implies, implies_true, and_true] at lt9)); (k_dflt ((have q1 := ltN lt9.2.2.1); (have q2 := ltN lt9.2.2.2); (have q3 := ltN ltAB); (have q4 := ltN ltBT))); (k_dflt (clear lt9 ltAB ltBT)); (k_dflt (simp only [List.cons_append, List.nil_append] at N9)); (k_dflt ((have vA := cA.toRv); (have vB := cB.toRv); (have lA := vA.len); (have lB := vB.len); (have lA0 := cA.pos); (have lB0 := cB.pos))); ((try dsimp only); (try k_fold))))
theorem src_law {prog : Program} {w : World} {A : Around} {h₀ : Heap} {L : Addr} {m : Str → Option Value} {env : Env} {elt : PySem.Expr} {x : Str} {scope : Scope} {cl : List (Str × Addr)} {Fin : Shared → List Value → List (Addr × Obj) → Prop} {ax : Addr} {va : List Value} {n k : Nat} {news : List (Addr × Obj)} {s₁ : Shared}
    (hh : A.handled = none) (F : Fr h₀ L s₁.heap m) (N : News h₀ L s₁.heap news) (hm : (ax, W.listOf va.toArray k) ∈ news) (hn : va.length = n) (hl : n ≤ 2 ^ 20)
    (h : LCg.SrcAt h₀ ax va.toArray news → ∀ g, LCg.CompRest prog w A h₀ L m env elt x scope cl { s₁ with heap := g } (LCg.SrcAt h₀ ax va.toArray) (fun i v => va.toArray[i]? = some v) (Fin { s₁ with heap := g }) va.toArray.size 0 [] news) :
    LCg.CompSrc prog w A h₀ L m env elt x scope cl Fin (.ref ax) s₁ :=
  LCg.CompSrc.ledger hh F N hm (by rw [PySem.sizeLine_eq]; simp only [List.size_toArray]; omega) (h (srcAt_of hm))
set_option hygiene false in
local macro_rules | `(tactic| walk_at "CompSrc") => `(tactic| (k_here; (with_reducible show LCg.CompSrc _ _ _ _ _ _ _ (PySem.Expr.Call (PySem.Expr.Name (Str.ofString "unctrl") _) _ _ _) _ _ _ _ _ _); (k_dflt (refine src_law (by rfl) (by k_asm) (by k_asm) (by k_mem) (IntsAre.length (by assumption)) (by omega) ?_; intro hsrc' g')); (k_dflt (refine' kct_list txt (by assumption) (fun k' t' I' oI' C' oC' D' m' ys' h' tk' E' hk' hC' hx' F' N' off' ne' hMark' => ?_) ?_)); (k_dflt (rotate_right)); (k_dflt (unfold KPfDone; intro ys' hc' hl')); (k_dflt (have iS := CarriedAll.strsOf hc')); (k_dflt (have lS := iS.length)); (k_dflt (simp only [List.length_map] at lS)); (k_dflt (clear hc' hl')); (k_dflt (rotate_left)); (k_dflt (have hcd := Rv.cd (by assumption) _ hk')); (k_dflt ((have c0' := hcd.1); (have c1' := hcd.2); clear hcd))))
local macro_rules | `(tactic| walk_at "KCtEl") => `(tactic| (k_dflt (exact ⟨rfl, _, rfl⟩)))
local macro_rules | `(tactic| walk_at "KCfEl") => `(tactic| (k_dflt (exact ⟨rfl, _, rfl⟩)))
set_option hygiene false in
local macro_rules | `(tactic| walk_at "El2") => `(tactic| (k_dflt (exact El2.intro (by k_asm) (by k_asm) (fun p hp => hp))))
set_option hygiene false in
local macro_rules | `(tactic| walk_at "eval ListComp") => `(tactic| (k_here; (with_reducible show wpAny _ _ (eval (PySem.Expr.ListComp (PySem.Expr.Call (PySem.Expr.Name (Str.ofString "three_way_cmp") _) _ _ _) _ _ _) _) _ _ _); (k_dflt (refine' ListComp2 (fun x y => cmpF x.cps.toList y.cps.toList) ?hh (Stand.strs ?sa) (Stand.strs ?sb) ?F ?N ?ma ?mb ?sz ?cl ?ce ?ki ?na ?hx ?hy ?xy ?hit ?src ?_ ?_ ?hs ?hs2)); (k_dflt ((case hh => rfl); (case F => k_asm); (case N => k_asm))); (k_dflt (case cl => first | rfl | with_unfolding_all rfl)); (k_dflt ((case ce => decide); (case ki => rfl); (case na => decide); (case hx => rfl); (case hy => rfl); (case xy => decide))); (k_dflt (case hit => (intro Q' hq'; walk_at "eval Name"; exact hq'))); (k_dflt (case src => (intro C' h' tk' E' Q' N' hq'; refine kcf_cell N' (by rfl) (by k_mem) (by assumption) hq'))); (k_dflt ((case ma => k_mem); (case mb => k_mem); (case sa => assumption); (case sb => assumption))); (k_dflt (case sz => (simp only [List.length_map]; rw [PySem.sizeLine_eq]; (have := Nat.mul_le_mul lA lB); omega))); (k_dflt ((case hs => (intro _; rfl)); (case hs2 => (intro _ _; rfl)))); (k_dflt (rotate_right)); (k_dflt (intro D' h' tk' zs' F' N' o1' iz'; clear o1')); (k_dflt (have lz' := iz'.length)); (k_dflt (rotate_left)); (k_dflt (unfold Turn2; intro ea eb ev eu I' oI' J' oJ' C' oC' D' m' ys' h' tk' E' hea heb hrv hru hC' hx' hy' F' N')); (k_dflt (obtain ⟨tv', rfl⟩ := hrv; obtain ⟨tu', rfl⟩ := hru))))
set_option hygiene false in
local macro_rules | `(tactic| walk_at "subscriptTail Name Slice ref ref") => `(tactic| (k_here; (with_reducible show wpAny _ _ (subscriptTail _ (PySem.Expr.Slice _ _ none _) (Value.ref _) (Value.ref _)) _ _ _); k_dflt (refine' text_slice ?F ?N ?hm ?ia ?hl ?i0 ?i1 ?_ ?hs ?ht; (case F => k_asm); (case N => k_asm); (case hm => k_mem); (case ia => assumption)); (k_dflt ((case hl => (simp only [List.length_map]; omega)); (case i0 => decide); (case i1 => (simp only [List.length_map]; omega)); (case hs => with_unfolding_all rfl); (case ht => (intro _; with_unfolding_all rfl)))); (k_dflt (intro D' ws' h' F' N' l1' hS')); (k_dflt (clear l1'))))
set_option hygiene false in
local macro_rules | `(tactic| walk_at "call ref") => `(tactic| (k_here; (with_reducible show wpAny _ _ (call (Value.ref 28) _) _ _ _); k_dflt (refine' Tell.use ?k1 ?k2 ?k3 ?k4 ?k5 (cmp_texts _ _ _ _ _ _ _ _ _ ?ha ?hb ?ia ?ib) ?k6 ?kd ?ku ?_); (k_dflt (walk_at "mine ks")); (k_dflt ((case ha => k_mem); (case hb => k_mem); (case ia => assumption); (case ib => assumption))); (k_dflt (walk_at "mine in1"))))
section
variable {prog : Program} {A : Around} {E : Value → Shared → Prop} {s : Shared} {Q : Value → Shared → Prop} {h₀ : Heap} {L l b : Addr} {m : Str → Option Value} {news : List (Addr × Obj)} {vs ws : List Value} {n n2 : Nat}
theorem cat_law (F : Fr h₀ L s.heap m) (N : News h₀ L s.heap news) (hl : (l, W.listOf vs.toArray n) ∈ news) (hb : (b, W.listOf ws.toArray n2) ∈ news) (hz : vs.length + ws.length ≤ 2 ^ 20)
    (h : ∀ D h', Fr h₀ L h' m → News h₀ L h' ((D, W.listOf (vs ++ ws).toArray 0) :: news) → (∀ p ∈ news, p.1 < D) → Q (.ref D) { s with heap := h' }) : wpAny (model prog w) A (binaryOp .Add (.ref l) (.ref b)) Q E s :=
  add_lists F N (News.isList N hl) (News.isList N hb) (fun h' F' N' => h _ h' F' N' fun p hp => Heap.lt_size (N p hp).1) (by rw [PySem.sizeLine_eq]; omega)
theorem cat_ints {ns ms : List Int} (F : Fr h₀ L s.heap m) (N : News h₀ L s.heap news) (hl : (l, W.listOf vs.toArray n) ∈ news) (hb : (b, W.listOf ws.toArray n2) ∈ news) (hi : IntsAre vs ns) (hj : IntsAre ws ms) (hz : ns.length + ms.length ≤ 2 ^ 20)
    (h : ∀ D vs' h', Fr h₀ L h' m → News h₀ L h' ((D, W.listOf vs'.toArray 0) :: news) → (∀ p ∈ news, p.1 < D) → IntsAre vs' (ns ++ ms) → vs'.length = ns.length + ms.length → Q (.ref D) { s with heap := h' }) : wpAny (model prog w) A (binaryOp .Add (.ref l) (.ref b)) Q E s :=
  cat_law F N hl hb (by rw [hi.length, hj.length]; exact hz) fun D h' F' N' l1 => h D _ h' F' N' l1 (hi.append hj) (by rw [List.length_append, hi.length, hj.length])
theorem cat_strs {ns ms : List PySem.Str} (F : Fr h₀ L s.heap m) (N : News h₀ L s.heap news) (hl : (l, W.listOf vs.toArray n) ∈ news) (hb : (b, W.listOf ws.toArray n2) ∈ news) (hi : StrsAre vs ns) (hj : StrsAre ws ms) (hz : ns.length + ms.length ≤ 2 ^ 20)
    (h : ∀ D vs' h', Fr h₀ L h' m → News h₀ L h' ((D, W.listOf vs'.toArray 0) :: news) → (∀ p ∈ news, p.1 < D) → StrsAre vs' (ns ++ ms) → vs'.length = ns.length + ms.length → Q (.ref D) { s with heap := h' }) : wpAny (model prog w) A (binaryOp .Add (.ref l) (.ref b)) Q E s :=
  cat_law F N hl hb (by rw [hi.length, hj.length]; exact hz) fun D h' F' N' l1 => h D _ h' F' N' l1 (hi.append' hj) (by rw [List.length_append, hi.length, hj.length])
end
set_option hygiene false in
local macro_rules | `(tactic| walk_at "binaryOp Add ref ref") => `(tactic| (k_here; (with_reducible show wpAny _ _ (binaryOp _ (Value.ref _) (Value.ref _)) _ _ _); k_dflt (refine' cat_ints ?F ?N ?ha ?hb ?hi ?hj ?hz ?_; (case F => k_asm); (case N => k_asm); (case ha => k_mem); (case hb => k_mem); (case hi => first | assumption | exact .cons _ _ .nil); (case hj => first | assumption | exact .cons _ _ .nil)); (k_dflt (case hz => ((try simp only [prodF_len, List.length_map, List.length_cons, List.length_nil]); (have := Nat.mul_le_mul lA lB); omega))); (k_dflt (intro D' ws' h' F' N' l1' iC' lC'; clear l1'))))
set_option hygiene false in
local macro_rules | `(tactic| walk_at "eval ListComp") => `(tactic| (k_here; (with_reducible show wpAny _ _ (eval (PySem.Expr.ListComp (PySem.Expr.Call (PySem.Expr.Name (Str.ofString "_law_sign") _) _ _ _) _ _ _) _) _ _ _); (k_dflt (refine' ListComp2 (fun x y => sgnF (rankF x - rankF y)) ?hh (Stand.ints ?sa) (Stand.ints ?sb) ?F ?N ?ma ?mb ?sz ?cl ?ce ?ki ?na ?hx ?hy ?xy ?hit ?src ?_ ?_ ?hs ?hs2)); (k_dflt ((case hh => rfl); (case F => k_asm); (case N => k_asm))); (k_dflt (case cl => first | rfl | with_unfolding_all rfl)); (k_dflt ((case ce => decide); (case ki => rfl); (case na => decide); (case hx => rfl); (case hy => rfl); (case xy => decide))); (k_dflt (case hit => (intro Q' hq'; walk_at "eval Name"; exact hq'))); (k_dflt (case src => (intro C' h' tk' E' Q' N' hq'; refine kcf_cell N' (by rfl) (by k_mem) (by assumption) hq'))); (k_dflt ((case ma => k_mem); (case mb => k_mem); (case sa => assumption); (case sb => assumption))); (k_dflt (case sz => (rw [PySem.sizeLine_eq]; (have := Nat.mul_le_mul lA lB); omega))); (k_dflt ((case hs => (intro _; rfl)); (case hs2 => (intro _ _; rfl)))); (k_dflt (rotate_right)); (k_dflt (intro D' h' tk' zs' F' N' o1' iz'; clear o1')); (k_dflt (have lz' := iz'.length)); (k_dflt (rotate_left)); (k_dflt (unfold Turn2; intro ea eb ev eu I' oI' J' oJ' C' oC' D' m' ys' h' tk' E' hea heb hrv hru hC' hx' hy' F' N')); (k_dflt (obtain ⟨tv', rfl⟩ := hrv; obtain ⟨tu', rfl⟩ := hru))))
set_option hygiene false in
local macro_rules | `(tactic| walk_at "call ref") => `(tactic| (k_here; (with_reducible show wpAny _ _ (call (Value.ref 91) _) _ _ _); k_dflt (refine' Tell.use ?k1 ?k2 ?k3 ?k4 ?k5 (rsign_ints _ _ _ _ _ _ _ _ _ ?ha ?hb ?ia ?ib ?la ?lb) ?k6 ?kd ?ku ?_); (k_dflt (walk_at "mine ks")); (k_dflt ((case ha => k_mem); (case hb => k_mem); (case ia => assumption); (case ib => assumption))); (k_dflt ((case la => (simp only [List.length_drop]; omega)); (case lb => (simp only [List.length_drop]; omega)))); (k_dflt (walk_at "mine in1"))))
theorem prodF_congr {α β : Type} {g g' : α → β → Int} {as : List α} {bs : List β} (h : ∀ a ∈ as, ∀ b ∈ bs, g a b = g' a b) : prodF g as bs = prodF g' as bs := by
  unfold prodF
  rw [List.flatMap_def, List.flatMap_def]
  congr 1
  exact List.map_congr_left fun a ha => List.map_congr_left fun b hb => h a ha b hb
theorem prodF_map {α β γ δ : Type} {g : γ → δ → Int} {f : α → γ} {k : β → δ} {as : List α} {bs : List β} : prodF g (as.map f) (bs.map k) = prodF (fun a b => g (f a) (k b)) as bs := by
  unfold prodF
  rw [List.flatMap_map]
  simp only [List.map_map]
  rfl
theorem signs_due {ra rb : List Int} (cA : Rw ra) (cB : Rw rb) :
    prodF (fun x y => cmpF x.cps.toList y.cps.toList) (ra.map txt) (rb.map txt) ++ [cmpL (List.drop (Int.toNat 1) (ra.map txt)) (List.drop (Int.toNat 1) (rb.map txt))] = prodF (fun x y => sgnF (rankF x - rankF y)) ra rb ++ [rsF (List.drop 1 ra) (List.drop 1 rb)] := by
  rw [prodF_map]
  congr 1
  · exact prodF_congr fun a ha b hb => cmp_txt (cA.cd a ha) (cB.cd b hb)
  · rw [show Int.toNat 1 = 1 from rfl, ← List.map_drop, ← List.map_drop, cmpL_txt _ _ (fun a h => cA.cd a (List.mem_of_mem_drop h)) (fun b h => cB.cd b (List.mem_of_mem_drop h))]
set_option hygiene false in
local macro_rules | `(tactic| walk_at "compareOp NotEq ref ref") => `(tactic| (k_here; (with_reducible show wpAny _ _ (compareOp _ (Value.ref _) (Value.ref _)) _ _ _); k_dflt (refine' ne_ints (ns := prodF (fun x y => sgnF (rankF x - rankF y)) ra rb ++ [rsF (List.drop 1 ra) (List.drop 1 rb)]) (News.isList ?F1 ?m1) (News.isList ?F2 ?m2) ?hx ?hy ?hu ?_; (case F1 => k_asm); (case F2 => k_asm); (case m1 => k_mem); (case m2 => k_mem); (case hy => assumption); (case hx => (rw [← signs_due cA cB]; assumption))); (k_dflt (case hu => first | k_units | ktr_units))))
def NoT (h₀ : Heap) (L : Addr) (m : Str → Option Value) (led : List (Addr × Obj)) (s₁ : Shared) (ok : Bool) (s₂ : Shared) : Prop :=
  ok = false ∧ ∃ h' tk, s₂ = { s₁ with heap := h', toks := tk } ∧ Fr h₀ L h' m ∧ News h₀ L h' led
theorem none_rest {prog : Program} {w : World} {A : Around} {h₀ : Heap} {L : Addr} {m : Str → Option Value} {env : Env} {ct elt : PySem.Expr} {x : Str} {scope : Scope} {cl : List (Str × Addr)} {s : Shared} {S : List (Addr × Obj) → Prop} {Fin : List Value → List (Addr × Obj) → Prop} {news : List (Addr × Obj)} {vs : List Value} {ns : List Int} (hi : IntsAre vs ns)
    (turn : ∀ k t I oI C oC D m₂ h tk (E' : Value → Shared → Prop), LCg.NsObj oC m₂ → m₂ x = some (.int k t) → Fr h₀ L h m → News h₀ L h ((I, oI) :: (C, oC) :: (D, LCg.lst []) :: news) → LCg.Off3 I C D news → ((@Ne Nat I C) ∧ (@Ne Nat I D) ∧ (@Ne Nat C D)) →
      wpAny (model prog w) A (isTrue ct (compEnvC scope cl C env) (eval ct (compEnvC scope cl C env))) (NoT h₀ L m ((I, oI) :: (C, oC) :: (D, LCg.lst []) :: news) { s with heap := h, toks := tk }) E' { s with heap := h, toks := tk })
    (hS : S news) (fin : Fin [] news) : LCt.CompRestT prog w A h₀ L m env ct elt x scope cl s S (fun i v => vs.toArray[i]? = some v) Fin vs.toArray.size 0 [] news := by
  have key : ∀ (j i : Nat), i + j = vs.length → LCt.CompRestT prog w A h₀ L m env ct elt x scope cl s S (fun i v => vs.toArray[i]? = some v) Fin j i [] news := by
    intro j
    induction j with
    | zero => intro i _; exact LCt.CompRestT.zero fin
    | succ j ih =>
      intro i hi'
      refine LCt.CompRestT.succ ?_
      intro v I oI C oC D m₂ h tk E' hv hC hx F N off ne
      obtain ⟨k, t, e, hk⟩ := IntsAre.at hi i v (by simpa using hv)
      rw [e] at hx
      refine wpAny_mono (turn k t I oI C oC D m₂ h tk E' hC hx F N off ne) (fun ok s₂ hq => ?_) fun _ _ e => e
      obtain ⟨rfl, h', tk', rfl, F', N'⟩ := hq
      rw [if_neg (by decide)]
      exact ⟨h', tk', news, rfl, F', N', off, hS, ih (i + 1) (by omega)⟩
  have := key vs.length 0 (by omega)
  simpa using this
theorem src_lawT {prog : Program} {w : World} {A : Around} {h₀ : Heap} {L : Addr} {m : Str → Option Value} {env : Env} {ct elt : PySem.Expr} {x : Str} {scope : Scope} {cl : List (Str × Addr)} {Fin : Shared → List Value → List (Addr × Obj) → Prop} {ax : Addr} {va : List Value} {ns : List Int} {k : Nat} {news : List (Addr × Obj)} {s₁ : Shared}
    (hh : A.handled = none) (F : Fr h₀ L s₁.heap m) (N : News h₀ L s₁.heap news) (hm : (ax, W.listOf va.toArray k) ∈ news) (hn : IntsAre va ns) (hl : ns.length ≤ 2 ^ 20)
    (h : ∀ g, LCt.CompRestT prog w A h₀ L m env ct elt x scope cl { s₁ with heap := g } (LCg.SrcAt h₀ ax va.toArray) (fun i v => va.toArray[i]? = some v) (Fin { s₁ with heap := g }) va.toArray.size 0 [] news) :
    LCt.CompSrcT prog w A h₀ L m env ct elt x scope cl Fin (.ref ax) s₁ :=
  LCt.CompSrcT.ledger hh F N hm (by have := hn.length; rw [PySem.sizeLine_eq]; simp only [List.size_toArray]; omega) h
set_option hygiene false in
local macro_rules | `(tactic| walk_at "NoT") => `(tactic| (k_dflt (exact ⟨rfl, _, _, rfl, by k_asm, by k_asm⟩)))
set_option hygiene false in
local macro_rules | `(tactic| walk_at "eval ListComp") => `(tactic| (k_here; (with_reducible show wpAny _ _ (eval (PySem.Expr.ListComp (PySem.Expr.Name (Str.ofString "sign") _) _ _ _) _) _ _ _); (k_dflt (refine LCt.ListComp_T (F₀ := by k_asm) (by rfl) (by decide) (by rfl) (by decide) (by rfl) ?_)); (k_dflt (walk_at "eval Name")); (k_dflt (refine' src_lawT ?hh4 ?F4 ?N4 ?hm4 ?hn4 ?hl4 ?_)); (k_dflt ((case hh4 => rfl); (case F4 => k_asm); (case N4 => k_asm); (case hm4 => k_mem); (case hn4 => assumption))); (k_dflt (case hl4 => (simp only [List.length_append, prodF_len, List.length_map, List.length_cons, List.length_nil]; (have := Nat.mul_le_mul lA lB); omega))); (k_dflt (intro g'; refine' none_rest (by assumption) (fun k' t' I' oI' C' oC' D' m' h' tk' E' hC' hx' F' N' off' ne' => ?_) ?_ ?_)); (k_dflt (rotate_left)); (k_dflt (exact srcAt_of (by k_mem))); (k_dflt (rotate_right))))
set_option hygiene false in
local macro_rules | `(tactic| walk_at "compareOp NotEq ref ref") => `(tactic| (k_here; (with_reducible show wpAny _ _ (compareOp _ (Value.ref _) (Value.ref _)) _ _ _); k_dflt (refine' ne_ints (vs := []) (ws := []) (ns := []) (News.isList ?F1 ?m1) (News.isList ?F2 ?m2) .nil .nil ?hu ?_; (case F1 => k_asm); (case F2 => k_asm); (case m1 => k_mem); (case m2 => k_mem)); (k_dflt (case hu => first | k_units | ktr_units))))
structure So (ra : List Int) (sa : List PySem.Str) : Prop where
  so : sortedS sa = true
  perm : sa.Perm (ra.map txt)
theorem So.len {ra : List Int} {sa : List PySem.Str} (h : So ra sa) : sa.length = ra.length := by rw [h.perm.length_eq, List.length_map]
structure AL (ra cs : List Int) : Prop where
  perm : cs.Perm ra
  pw : cs.Pairwise rle
abbrev hereL (cs rb : List Int) : List Int := hereF cs (cs.map rankF) (rb.map rankF) cs.length
theorem gone_ok {ra rb cs db : List Int} {sa sb : List PySem.Str} (cA : Rw ra) (cB : Rw rb) (oa : So ra sa) (ob : So rb sb) (c : AL ra cs) (d : AL rb db) : (sldF sa sb).1 = (hereL cs rb).map txt :=
  sld_gone cA.cd cB.cd oa.so oa.perm ob.so ob.perm db d.perm d.pw c.perm c.pw
theorem come_ok {ra rb cs db : List Int} {sa sb : List PySem.Str} (cA : Rw ra) (cB : Rw rb) (oa : So ra sa) (ob : So rb sb) (c : AL ra cs) (d : AL rb db) : (sldF sa sb).2 = (hereL db ra).map txt :=
  sld_come cA.cd cB.cd oa.so oa.perm ob.so ob.perm cs c.perm c.pw d.perm d.pw
theorem here_rv {ra rb cs : List Int} (cA : Rv ra) (c : AL ra cs) : Rv (hereL cs rb) := by
  refine ⟨fun a ha => ?_, Nat.le_trans (hereF_len ..) (by rw [c.perm.length_eq]; exact cA.len)⟩
  obtain ⟨k, hk, e⟩ := List.mem_filterMap.mp ha
  split at e
  · obtain rfl := Option.some.inj e
    refine cA.cd _ (c.perm.mem_iff.mp ?_)
    have : k < cs.length := List.mem_range.mp hk
    simp [List.getD_eq_getElem?_getD, this]
  · cases e
theorem Rv.app {ra rb : List Int} (a : Rv ra) (b : Rv rb) : ∀ c ∈ ra ++ rb, Cd c := fun c h => (List.mem_append.mp h).elim (a.cd c) (b.cd c)
theorem alone_open {ra rb : List Int} {r : Value} {new : List (Addr × Obj)} (cA : Rv ra) (h : AloneOut ra rb r new) : ∃ (A : Addr) (vs : List Value) (n : Nat) (cs : List Int), r = .ref A ∧ new = [(A, W.listOf vs.toArray n)] ∧ AL ra cs ∧ Rv (hereL cs rb) ∧ IntsAre vs (hereL cs rb) := by
  obtain ⟨A, vs, n, cs, h1, h2, h3, h4, h5⟩ := h
  exact ⟨A, vs, n, cs, h1, h2, ⟨h3, h4⟩, here_rv cA ⟨h3, h4⟩, h5⟩
section
variable {prog : Program} {A : Around} {E : Value → Shared → Prop} {s : Shared} {Q : Value → Shared → Prop} {h₀ : Heap} {L l b : Addr} {m : Str → Option Value} {news : List (Addr × Obj)} {vs ws : List Value} {n n2 : Nat}
theorem sorted_law {ra : List Int} (F : Fr h₀ L s.heap m) (N : News h₀ L s.heap news) (hl : (l, W.listOf vs.toArray n) ∈ news) (hS : StrsAre vs (ra.map txt)) (h64 : ra.length < 64)
    (h : ∀ D h' vs' ss' e, Fr h₀ L h' m → News h₀ L h' ((D, W.listOf vs'.toArray e) :: news) → (∀ p ∈ news, p.1 < D) → StrsAre vs' ss' → So ra ss' → Q (.ref D) { s with heap := h' }) : wpAny (model prog w) A (call (.builtin "sorted") [.ref l]) Q E s :=
  sorted_N_str F N (News.isList N hl) hS (by rw [hS.length, List.length_map]; exact h64) fun h' vs' ss' e F' N' hS' hp hs => h _ h' vs' ss' e F' N' (fun p hp => Nat.lt_succ_of_lt (Heap.lt_size (N p hp).1)) hS' ⟨hs, hp⟩
theorem cat_txts {ns ms : List Int} (F : Fr h₀ L s.heap m) (N : News h₀ L s.heap news) (hl : (l, W.listOf vs.toArray n) ∈ news) (hb : (b, W.listOf ws.toArray n2) ∈ news) (hi : StrsAre vs (ns.map txt)) (hj : StrsAre ws (ms.map txt)) (vi : Rv ns) (vj : Rv ms)
    (h : ∀ D vs' h', Fr h₀ L h' m → News h₀ L h' ((D, W.listOf vs'.toArray 0) :: news) → (∀ p ∈ news, p.1 < D) → StrsAre vs' ((ns ++ ms).map txt) → vs'.length ≤ 26 → Q (.ref D) { s with heap := h' }) : wpAny (model prog w) A (binaryOp .Add (.ref l) (.ref b)) Q E s :=
  cat_strs F N hl hb hi hj (by have := vi.len; have := vj.len; simp only [List.length_map]; omega) fun D vs' h' F' N' l1 i' e => h D vs' h' F' N' l1 (by rw [List.map_append]; exact i') (by have := vi.len; have := vj.len; simp only [List.length_map] at e; omega)
theorem TellT.use {mean : ExcName → Option Value} {mg mb : Str → Option Value} {f : Addr} {d : Nat} {args : List Value} {Out : Value → List (Addr × Obj) → Prop} {env : Env} (C : TellT w mean mg mb f d news args Out)
    (hfr : A.frames = some [env]) (hA : A.handled = none) (hef : env.frame = some L) (hek : env.scope.kind ≠ .module) (F : Fr h₀ L s.heap m) (X : (hd.heap_39 w.params).In h₀) (N : News h₀ L s.heap news) (T : Top hd.view_39 (looseW hd.view_39 []) mean mg mb h₀)
    (hd : A.depth + d < recursionLimit) (hu : A.units + 8 * d < cLine)
    (ret : ∀ (r : Value) (new : List (Addr × Obj)) (h' : Heap) (tk' : Nat), Fr h₀ L h' m → News h₀ L h' (new ++ news) → (∀ q ∈ new, ∀ p ∈ news, p.1 < q.1) → Out r new → Q r { s with heap := h', toks := tk' }) :
    wpAny (model PySem.Challenge.rw_mj0090_01.row.prog w) A (call (.ref f) args) Q E s := C A env h₀ L m s Q E hfr hA hef hek F X N T hd hu ret
end
set_option hygiene false in
local macro_rules | `(tactic| walk_at "call builtin:sorted") => `(tactic| (k_here; k_dflt (refine' sorted_law ?F5 ?N5 ?hl5 ?hS5 ?h65 ?_; (case F5 => k_asm); (case N5 => k_asm); (case hl5 => k_mem); (case hS5 => assumption)); (k_dflt (case h65 => omega)); (k_dflt (intro D' h' vs' ss' e' F' N' l1' iS' oS')); (k_dflt (have lS' := oS'.len)); (k_dflt (clear l1'))))
set_option hygiene false in
local macro_rules | `(tactic| walk_at "call ref") => `(tactic| (k_here; (with_reducible show wpAny _ _ (call (Value.ref 21) _) _ _ _); k_dflt (refine' TellT.use (sld _ _ _ _ _ _ _ _ _ ?ha ?hb ?ia ?ib ?la ?lb) ?hfr6 ?hA6 ?hef6 ?hek6 ?F6 ?X6 ?N6 ?T6 ?hd6 ?hu6 ?_); (k_dflt ((case F6 => k_asm); (case X6 => k_asm); (case N6 => k_asm); (case T6 => k_asm))); (k_dflt ((case hfr6 => exact rfl); (case hA6 => exact rfl); (case hef6 => exact rfl))); (k_dflt (case hek6 => exact (fun q => by cases q))); (k_dflt ((case hd6 => exact Nat.le_of_ble_eq_true rfl); (case hu6 => exact Nat.le_of_ble_eq_true rfl))); (k_dflt ((case ha => k_mem); (case hb => k_mem); (case ia => assumption); (case ib => assumption); (case la => omega); (case lb => omega))); (k_dflt (intro r9 new9 h9 tk9 F9 N9 lt9 hO9)); (k_dflt (obtain ⟨gM, gU, gD, vm, vu, nm, nu, ltMU, ltUD, hr9, hn9, sm, su⟩ := hO9)); (k_dflt (subst hr9; subst hn9)); (k_dflt (clear lt9 ltMU ltUD)); (k_dflt (simp only [List.cons_append, List.nil_append] at N9)); ((try dsimp only); (try k_fold))))
set_option hygiene false in
local macro_rules | `(tactic| walk_at "call ref") => `(tactic| (k_here; (with_reducible show wpAny _ _ (call (Value.ref 96) _) _ _ _); k_dflt (refine' Tell.use ?k1 ?k2 ?k3 ?k4 ?k5 (alone_ints _ _ _ _ _ _ _ _ _ ?ha ?hb ?ia ?ib ?la ?lb ?lb0) ?k6 ?kd ?ku ?_); (k_dflt (walk_at "mine ks")); (k_dflt ((case ha => k_mem); (case hb => k_mem); (case ia => assumption); (case ib => assumption); (case la => omega); (case lb => omega); (case lb0 => omega))); (k_dflt (intro r9 new9 h9 tk9 F9 N9 lt9 hO9)); (k_dflt (obtain ⟨gA, vo, no, co, hr9, hn9, al9, rv9, io9⟩ := alone_open (by assumption) hO9)); (k_dflt (subst hr9; subst hn9; clear hO9)); (k_dflt (have l9 := rv9.len)); (k_dflt (clear lt9)); (k_dflt (simp only [List.cons_append, List.nil_append] at N9)); (k_dflt ((try rw [gone_ok cA cB (by assumption) (by assumption) (by assumption) (by assumption)] at sm))); (k_dflt ((try rw [come_ok cA cB (by assumption) (by assumption) (by assumption) (by assumption)] at su))); ((try dsimp only); (try k_fold))))
set_option hygiene false in
local macro_rules | `(tactic| walk_at "compareOp NotEq ref ref") => `(tactic| (k_here; (with_reducible show wpAny _ _ (compareOp _ (Value.ref _) (Value.ref _)) _ _ _); k_dflt (refine' ne_texts (News.isList ?F1 ?m1) (News.isList ?F2 ?m2) ?hx ?hy ?hu ?_; (case F1 => k_asm); (case F2 => k_asm); (case m1 => k_mem); (case m2 => k_mem); (case hx => assumption); (case hy => assumption)); (k_dflt (case hu => first | k_units | ktr_units))))
set_option hygiene false in
local macro_rules | `(tactic| walk_at "binaryOp Add ref ref") => `(tactic| (k_here; (with_reducible show wpAny _ _ (binaryOp _ (Value.ref _) (Value.ref _)) _ _ _); k_dflt (refine' cat_txts ?F ?N ?ha ?hb ?hi ?hj ?vi ?vj ?_; (case F => k_asm); (case N => k_asm); (case ha => k_mem); (case hb => k_mem); (case hi => assumption); (case hj => assumption); (case vi => assumption); (case vj => assumption)); (k_dflt (intro D' ws' h' F' N' l1' iC' lC'; clear l1'))))
theorem rest_of {α : Type} {rel : α → Value → Prop} {prog : Program} {w : World} {A : Around} {h₀ : Heap} {L : Addr} {m : Str → Option Value} {env : Env} {elt : PySem.Expr} {x : Str} {scope : Scope} {cl : List (Str × Addr)} {s : Shared} {S : List (Addr × Obj) → Prop} {Fin : List Value → List (Addr × Obj) → Prop} {news : List (Addr × Obj)} {vs : List Value} {as : List α} (g : α → Int) (st : Stand rel vs as)
    (turn : ∀ a v I oI C oC D m₂ ys h tk (E' : Value → Shared → Prop), a ∈ as → rel a v → LCg.NsObj oC m₂ → m₂ x = some v → Fr h₀ L h m → News h₀ L h ((I, oI) :: (C, oC) :: (D, LCg.lst ys) :: news) → LCg.Off3 I C D news → ((@Ne Nat I C) ∧ (@Ne Nat I D) ∧ (@Ne Nat C D)) →
      wpAny (model prog w) A (eval elt (compEnvC scope cl C env)) (LCg.CompEnd h₀ L m { s with heap := h, toks := tk } I oI C oC D (LCg.lst ys) S (fun y news' => KCfEl news (g a) y news')) E' { s with heap := h, toks := tk })
    (fin : ∀ ys, IntsAre ys (as.map g) → Fin ys news) : LCg.CompRest prog w A h₀ L m env elt x scope cl s S (fun i v => vs.toArray[i]? = some v) Fin vs.toArray.size 0 [] news := by
  have key : ∀ (j i : Nat) (ys : List Value), i + j = vs.length → IntsAre ys ((as.take i).map g) → LCg.CompRest prog w A h₀ L m env elt x scope cl s S (fun i v => vs.toArray[i]? = some v) Fin j i ys news := by
    intro j
    induction j with
    | zero =>
      intro i ys hi hy
      have e := st.len
      rw [List.take_of_length_le (by omega)] at hy
      exact LCg.CompRest.zero (fin ys hy)
    | succ j ih =>
      intro i ys hi hy
      refine LCg.CompRest.succ ?_
      intro v I oI C oC D m₂ h tk E' hv hC hx F N off ne
      obtain ⟨a, ha, hr⟩ := st.at' i v (by simpa using hv)
      refine wpAny_mono (turn a v I oI C oC D m₂ ys h tk E' (List.mem_of_getElem? ha) hr hC hx F N off ne) (fun y s₂ hq => ?_) fun _ _ e => e
      obtain ⟨h', tk', nw, e, F', N', off', hS, hn, t', hy'⟩ := hq
      rw [hn] at N' off' hS
      refine ⟨h', tk', news, e, F', N', off', hS, ?_⟩
      rw [hy']
      refine ih (i + 1) _ (by omega) ?_
      rw [List.take_add_one, ha]
      simpa using ints_snoc hy
  have := key vs.length 0 [] (by omega) .nil
  simpa using this
theorem Stand.txts {vs : List Value} {cs : List Int} (h : StrsAre vs (cs.map txt)) : Stand (fun c v => ∃ t, v = .str (txt c) t) vs cs := by
  refine ⟨by rw [h.length, List.length_map], fun i v hv => ?_⟩
  obtain ⟨y, t, e, hy⟩ := h.item i v hv
  rw [List.getElem?_map, Option.map_eq_some_iff] at hy
  obtain ⟨c, hc, rfl⟩ := hy
  exact ⟨c, hc, t, e⟩
theorem read_txt (news : List (Addr × Obj)) (c : Int) (t : Tok) (hc : Cd c) : Tell w mean mg mb 103 3 news [.str (txt c) t] (OutV fun r => ∃ u, r = .int (c.fmod 256) u) := by
  have e : c.fmod 256 = c % 256 := Int.fmod_eq_emod_of_nonneg _ (by decide)
  rw [e]
  have hS := shp hc
  cases hS with
  | a x h q => have k := read_1 (w := w) (mean := mean) (mg := mg) (mb := mb) news x t; rw [q] at k; unfold txt; rw [h]; exact k
  | b x h q => have k := read_2 (w := w) (mean := mean) (mg := mg) (mb := mb) news x t; rw [q] at k; unfold txt; rw [h]; exact k
  | c x h q => have k := read_3 (w := w) (mean := mean) (mg := mg) (mb := mb) news x t; rw [q] at k; unfold txt; rw [h]; exact k
  | d x h q => have k := read_4 (w := w) (mean := mean) (mg := mg) (mb := mb) news x t; rw [q] at k; unfold txt; rw [h]; exact k
set_option hygiene false in
local macro_rules | `(tactic| walk_at "call ref") => `(tactic| (k_here; (with_reducible show wpAny _ _ (call (Value.ref 103) _) _ _ _); k_dflt (refine' Tell.use ?k1 ?k2 ?k3 ?k4 ?k5 (read_txt _ _ _ ?hc) ?k6 ?kd ?ku ?_); (k_dflt (walk_at "mine ks")); (k_dflt (case hc => assumption)); (k_dflt (walk_at "mine in1"))))
set_option hygiene false in
local macro_rules | `(tactic| walk_at "CompSrc") => `(tactic| (k_here; (with_reducible show LCg.CompSrc _ _ _ _ _ _ _ (PySem.Expr.Call (PySem.Expr.Name (Str.ofString "_law_read") _) _ _ _) _ _ _ _ _ _); (k_dflt (refine src_law (by rfl) (by k_asm) (by k_asm) (by k_mem) rfl (by omega) ?_; intro hsrc' g')); (k_dflt (refine' rest_of (fun c => c.fmod 256) (Stand.txts (by assumption)) (fun a' v' I' oI' C' oC' D' m' ys' h' tk' E' hk' hv' hC' hx' F' N' off' ne' => ?_) ?_)); (k_dflt (rotate_right)); (k_dflt (intro ys' iR')); (k_dflt (rotate_left)); (k_dflt (obtain ⟨t9', rfl⟩ := hv')); (k_dflt (have hcd := Rv.app (by assumption) (by assumption) _ hk'))))
set_option hygiene false in
local macro_rules | `(tactic| walk_at "CompSrc") => `(tactic| (k_here; (with_reducible show LCg.CompSrc _ _ _ _ _ _ _ (PySem.Expr.BinOp (PySem.Expr.Name (Str.ofString "code") _) _ _ _) _ _ _ _ _ _); (k_dflt (refine src_law (by rfl) (by k_asm) (by k_asm) (by k_mem) rfl (by omega) ?_; intro hsrc' g')); (k_dflt (refine' rest_of (fun c => c.fmod 256) (Stand.ints (by assumption)) (fun a' v' I' oI' C' oC' D' m' ys' h' tk' E' hk' hv' hC' hx' F' N' off' ne' => ?_) ?_)); (k_dflt (rotate_right)); (k_dflt (intro ys' iR')); (k_dflt (rotate_left)); (k_dflt (obtain ⟨t9', rfl⟩ := hv'))))
set_option hygiene false in
local macro_rules | `(tactic| walk_at "compareOp Eq ref ref") => `(tactic| (k_here; (with_reducible show wpAny _ _ (compareOp _ (Value.ref _) (Value.ref _)) _ _ _); k_dflt (refine' eq_ints (News.isList ?F1 ?m1) (News.isList ?F2 ?m2) ?hx ?hy ?hu ?_; (case F1 => k_asm); (case F2 => k_asm); (case m1 => k_mem); (case m2 => k_mem); (case hx => assumption); (case hy => assumption)); (k_dflt (case hu => first | k_units | ktr_units))))
local macro_rules | `(tactic| walk_at "call ref") => `(tactic| (k_here; (with_reducible show wpAny _ _ (call (Value.ref 77) _) _ _ _); k_dflt (refine' Tell.use ?k1 ?k2 ?k3 ?k4 ?k5 (rank_int _ _ _) ?k6 ?kd ?ku ?_; walk_at "mine use1")))
local macro_rules | `(tactic| walk_at "call ref") => `(tactic| (k_here; (with_reducible show wpAny _ _ (call (Value.ref 84) _) _ _ _); k_dflt (refine' Tell.use ?k1 ?k2 ?k3 ?k4 ?k5 (sign_int _ _ _) ?k6 ?kd ?ku ?_; walk_at "mine use1")))
local macro_rules | `(tactic| walk_at "call ref") => `(tactic| (k_here; (with_reducible show wpAny _ _ (call (Value.ref 28) [Value.str _ _, _]) _ _ _); k_dflt (refine' Tell.use ?k1 ?k2 ?k3 ?k4 ?k5 (cmp_str _ _ _ _ _) ?k6 ?kd ?ku ?_; walk_at "mine use1")))
set_option hygiene false in
local macro_rules | `(tactic| walk_at "call ref") => `(tactic| (k_here; (with_reducible show wpAny _ _ (call (Value.ref 63) _) _ _ _); k_dflt (refine' Tell.use ?k1 ?k2 ?k3 ?k4 ?k5 (unctrl_int _ _ _ ?h0 ?h1) ?k6 ?kd ?ku ?_; (case h0 => assumption); (case h1 => assumption); walk_at "mine pure"; obtain ⟨u9, hO9⟩ := hO9; subst hO9; (try dsimp only); (try k_fold))))
set_option hygiene false in
local macro_rules | `(tactic| walk_at "CompEnd") => `(tactic| k_dflt (refine LCg.CompEnd.intro (by k_asm) (by k_asm) _ (fun _ h => h) off' hsrc' ?_))
local macro_rules | `(tactic| walk_at "FinE") => `(tactic| ((unfold LCg.FinE); intro D' h' tk' F' N' o1'; clear o1'; (try dsimp only)))
local macro_rules | `(tactic| walk_at "FinE") => `(tactic| ((with_reducible show LCg.FinE _ _ _ _ _ _ [_, _, _, _, _, _]); (unfold LCg.FinE); intro D' h' tk' F' N' o1'; (simp only [LCg.Off1, and_true] at o1'); (try dsimp only)))
set_option maxHeartbeats 4000000 in
theorem law_holds : PySem.Challenge.rw_mj0090_01.Holds := hd (by
  k_go0
  (all_goals try k_fold)
  k_steps)

end Mine
theorem PySem.Challenge.cw_mj0090_01_holds : PySem.Challenge.rw_mj0090_01.Holds := by
  exact Mine.law_holds
