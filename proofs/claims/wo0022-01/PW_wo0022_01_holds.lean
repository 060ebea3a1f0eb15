import PyProof.Rows.All
import Wide.All
import OpenK.AllK
import Wide.FinOn
import PySem.Challenge.RW_wo0022_01
open PySem PySem.W PyProof.Rows
set_option Elab.async false
set_option maxRecDepth 100000
set_option maxHeartbeats 8000000
namespace Mine

section
open PySem PySem.W PyProof.Rows
section
local macro_rules | `(tactic| o_head ($_f:ident $k $a $_e)) => `(tactic| o_head ((kHook (fun P => $k P ++ [(69, tabObj #[])]) ($a ++ [69]) (fun _ => by kernel_rfl))))
open_top hd for PySem.Challenge.rw_wo0022_01
end
/-- the head leaves the walk set for tops; the parts are walked with that off -/
theorem top_off : True := by
  w_top off
  trivial
end

section
open PySem PySem.W PyProof.Rows PySem.Calls
noncomputable abbrev PG : Program := PySem.Challenge.rw_wo0022_01.row.prog
noncomputable abbrev LS : List Str := looseW hd.view_39 [Str.ofString "_Accumulator"]
noncomputable abbrev LT : List Str := LS ++ (recsOf hd.view_39).map (·.name) ++ (litsOf hd.view_39).map (·.1) ++ (clssOf hd.view_39 LS).map (·.name)

/-- a goal at which the walk is to stop -/
structure Stop (P : Prop) : Prop where
  out : P
theorem stop_here {P : Prop} (h : Stop P) : P := h.out

abbrev PureC (w : World) (f : Addr) (vs : List Value) (Rv : Value → Heap → Prop) : Prop :=
  ∀ (mean : ExcName → Option Value) (mg mb : Str → Option Value) (cn : Str) (cs : Scope) (a : Addr) (ccd : Value) (base h₀ : Heap) (L : Addr) (m : Str → Option Value) (s : Shared) (Q E : Value → Shared → Prop),
    Below callerA base [] h₀ → Fr h₀ L s.heap m → (hd.heap_39 w.params).In h₀ → News h₀ L s.heap [] → Top topProg LT mean mg mb h₀ → cs.kind = .function →
    (∀ v h' tk', InElt s.heap h' → Rv v h' → Q v { s with heap := h', toks := tk' }) →
      wpAny (model PG w) (callerA.deeper (envOf cn cs L a ccd)) (call (.ref f) vs) Q E s

abbrev PureC2 (w : World) (f : Addr) (vs : List Value) (Rv : Value → Heap → Prop) : Prop :=
  ∀ (mean : ExcName → Option Value) (mg mb : Str → Option Value) (env₁ : Env) (cn : Str) (cs : Scope) (a : Addr) (ccd : Value) (base h₀ : Heap) (L : Addr) (m : Str → Option Value) (s : Shared) (Q E : Value → Shared → Prop),
    Below (callerA.deeper env₁) base [env₁] h₀ → Fr h₀ L s.heap m → (hd.heap_39 w.params).In h₀ → News h₀ L s.heap [] → Top topProg LT mean mg mb h₀ → cs.kind = .function →
    (∀ v h' tk', InElt s.heap h' → Rv v h' → Q v { s with heap := h', toks := tk' }) →
      wpAny (model PG w) ((callerA.deeper env₁).deeper (envOf cn cs L a ccd)) (call (.ref f) vs) Q E s

abbrev PureH2 (w : World) (f : Addr) (vs : List Value) (Rv : Heap → Value → Heap → Prop) : Prop :=
  ∀ (mean : ExcName → Option Value) (mg mb : Str → Option Value) (env₁ : Env) (cn : Str) (cs : Scope) (a : Addr) (ccd : Value) (base h₀ : Heap) (L : Addr) (m : Str → Option Value) (s : Shared) (Q E : Value → Shared → Prop),
    Below (callerA.deeper env₁) base [env₁] h₀ → Fr h₀ L s.heap m → (hd.heap_39 w.params).In h₀ → News h₀ L s.heap [] → Top topProg LT mean mg mb h₀ → cs.kind = .function →
    (∀ v h' tk', InElt s.heap h' → Rv s.heap v h' → Q v { s with heap := h', toks := tk' }) →
      wpAny (model PG w) ((callerA.deeper env₁).deeper (envOf cn cs L a ccd)) (call (.ref f) vs) Q E s

theorem pure_end {g h h' : Heap} {L : Addr} {m : Str → Option Value} (G : GSub h g ([] : List (Addr × Obj)).unzip.1) (F : Fr g L h' m) : InElt h h' :=
  fun b o e => F.keep b o (G b o e (fun q => nomatch q))

section
variable {prog : Program} {w : World} {A : Around} {E : Value → Shared → Prop} {s : Shared} {env : Env}
theorem for_list {target : Expr} {body : List Stmt} {Q : Flow → Shared → Prop} {l : Addr} {vs : Array Value} (hh : A.handled = none) (hl : s.heap.IsList l vs) (J : Nat → Shared → Prop)
    (h0 : J 0 { s with heap := s.heap.push { cls := .type "list_iterator", data := .fields #[.ref l, .int 0 0] } })
    (turn : ∀ (i : Nat) (hi : i < vs.size) (s' : Shared) (h₁ : Heap) (tk₁ : Nat), J i s' → h₁.IsListIter s.heap.objs.size l (i + 1) → h₁.IsList l vs → (∀ b o, b ≠ s.heap.objs.size → s'.heap.get? b = some o → h₁.get? b = some o) →
      wpAny (model prog w) A (assign target env vs[i]) (fun _ s₂ => wpAny (model prog w) A (execs body env) (fun f s₃ => match f with
        | .next | .cont => J (i + 1) s₃ ∧ s₃.heap.IsListIter s.heap.objs.size l (i + 1) ∧ s₃.heap.IsList l vs
        | .brk => Q .next s₃
        | .ret v => Q (.ret v) s₃) (fun _ _ => False) s₂) (fun _ _ => False) { s' with heap := h₁, toks := tk₁ })
    (done : ∀ (s' : Shared) (h₁ : Heap) (tk₁ : Nat), J vs.size s' → (∀ b o, b ≠ s.heap.objs.size → s'.heap.get? b = some o → h₁.get? b = some o) → Q .next { s' with heap := h₁, toks := tk₁ }) :
    wpAny (model prog w) A (pyIter (.ref l)) (fun it s₂ => codeAny (model prog w) A (.forLoop target it body [] env) (fun r s' => match r with | .ok f => Q f s' | .error e => cameBackBy (model prog w) A env E e s') s₂) E s := by
  obtain ⟨ol, hol, _⟩ := id hl
  have hne : l ≠ s.heap.objs.size := Nat.ne_of_lt (Heap.lt_size hol)
  refine wpAny_pyIter_list hl ?_
  have W := Walks.list (prog := prog) (w := w) hh s.heap.objs.size l hne vs
  refine codeAny_forLoop_any (fun k s' => ∃ i, J i s' ∧ (s'.heap.IsListIter s.heap.objs.size l i ∧ s'.heap.IsList l vs) ∧ i ≤ vs.size ∧ k = vs.size + 1 - i) ?_ (vs.size + 1)
    ⟨0, h0, ⟨⟨_, Heap.get?_push_size _ rfl, rfl, rfl⟩, hl.at fun o e => Heap.get?_push_of_some _ e⟩, Nat.zero_le _, rfl⟩
  rintro k s' ⟨i, hJ, hst, hi, rfl⟩
  have nope : ∀ {α : Type} {t : Sem α} {P : α → Shared → Prop} {s₁ : Shared} {E' : Value → Shared → Prop}, wpAny (model prog w) A t P (fun _ _ => False) s₁ → wpAny (model prog w) A t P E' s₁ := fun h => wpAny_noRaise h
  by_cases hlt : i < vs.size
  · refine W.item i _ _ _ hlt hst fun v h₁ tk₁ hP hst₁ hk₁ => ?_
    have hv : v = vs[i] := by
      have : vs[i]? = some v := hP
      rw [Array.getElem?_eq_getElem hlt] at this
      exact (Option.some.inj this).symm
    subst hv
    refine letGo_listiter hst₁.1 ?_
    refine nope (wpAny_mono (turn i hlt s' h₁ tk₁ hJ hst₁.1 hst₁.2 fun b o hb e => hk₁ b o (by simpa using hb) e) (fun _ s₂ h₂ => nope (wpAny_mono h₂ (fun f s₃ h₃ => ?_) fun _ _ x => x)) fun _ _ x => x)
    cases f with
    | next => exact ⟨vs.size + 1 - (i + 1), by omega, i + 1, h₃.1, h₃.2, hlt, rfl⟩
    | cont => exact ⟨vs.size + 1 - (i + 1), by omega, i + 1, h₃.1, h₃.2, hlt, rfl⟩
    | brk => exact h₃
    | ret v => exact h₃
  · obtain rfl : i = vs.size := Nat.le_antisymm hi (Nat.not_lt.mp hlt)
    refine W.done _ _ _ hst fun h₁ tk₁ hk₁ => wpAny_execs_nil ?_
    exact done s' h₁ tk₁ hJ fun b o hb e => hk₁ b o (by simpa using hb) e
end

section
variable {g h0 h h₁ : Heap} {L l : Addr} {m0 m : Str → Option Value} {led : List (Addr × Obj)} {i : Nat}
theorem fr_iter (F0 : Fr g L h0 m0) (N0 : News g L h0 led) (F : Fr g L h m) (N : News g L h led) (hk : ∀ b o, b ≠ h0.objs.size → h.get? b = some o → h₁.get? b = some o) (hit : h₁.IsListIter h0.objs.size l i) :
    Fr g L h₁ m ∧ ∃ oI, News g L h₁ ((h0.objs.size, oI) :: led) ∧ ∀ h' : Heap, h'.get? h0.objs.size = some oI → h'.IsListIter h0.objs.size l i := by
  have hL : L < h0.objs.size := F0.ns.lt
  have hg : g.get? h0.objs.size = none := next_is_new F0
  obtain ⟨oI, e, r⟩ := hit
  refine ⟨⟨F.ns.at' fun o e => hk _ o (Nat.ne_of_lt hL) e, fun b o e => hk b o (fun q => by rw [q, hg] at e; cases e) (F.keep b o e), F.above⟩, oI, fun p hp => ?_, fun h' e' => ⟨oI, e', r⟩⟩
  rcases List.mem_cons.mp hp with rfl | hp
  · exact ⟨e, Ne.symm (Nat.ne_of_lt hL), hg⟩
  · exact ⟨hk _ _ (Nat.ne_of_lt (Heap.lt_size (N0 p hp).1)) (N p hp).1, (N p hp).2⟩
theorem news_in {N1 : List (Addr × Obj)} (N : News g L h N1) {p : Addr × Obj} (hp : p ∈ N1) {led : List (Addr × Obj)} (N' : News g L h led) : News g L h (p :: led) := fun q hq => by
  rcases List.mem_cons.mp hq with rfl | hq
  · exact N _ hp
  · exact N' q hq
theorem fr_done (F0 : Fr g L h0 m0) (N0 : News g L h0 led) (F : Fr g L h m) (N : News g L h led) (hk : ∀ b o, b ≠ h0.objs.size → h.get? b = some o → h₁.get? b = some o) : Fr g L h₁ m ∧ News g L h₁ led := by
  have hL : L < h0.objs.size := F0.ns.lt
  have hg : g.get? h0.objs.size = none := next_is_new F0
  exact ⟨⟨F.ns.at' fun o e => hk _ o (Nat.ne_of_lt hL) e, fun b o e => hk b o (fun q => by rw [q, hg] at e; cases e) (F.keep b o e), F.above⟩, fun p hp => ⟨hk _ _ (Nat.ne_of_lt (Heap.lt_size (N0 p hp).1)) (N p hp).1, (N p hp).2⟩⟩
end
theorem fr_known {g h : Heap} {L : Addr} {m m2 : Str → Option Value} {stored : List Str} (F : Fr g L h m2) (hm : ∀ z, z ∉ stored → m2 z = m z) : Fr g L h (fun z => if stored.contains z = true then m2 z else m z) := by
  have e : (fun z => if stored.contains z = true then m2 z else m z) = m2 := by
    funext z
    by_cases h : stored.contains z = true
    · rw [if_pos h]
    · rw [if_neg h]; exact (hm z fun q => h (by simpa using q)).symm
  rw [e]; exact F
section
variable {g h0 h h₁ : Heap} {L l : Addr} {m0 m : Str → Option Value} {led : List (Addr × Obj)} {i : Nat}
theorem fr_iter2 (F0 : Fr g L h0 m0) (N0 : ∀ p ∈ led, p.1 < h0.objs.size) (F : Fr g L h m) (N : News g L h led) (hk : ∀ b o, b ≠ h0.objs.size → h.get? b = some o → h₁.get? b = some o) (hit : h₁.IsListIter h0.objs.size l i) :
    Fr g L h₁ m ∧ ∃ oI, News g L h₁ ((h0.objs.size, oI) :: led) ∧ ∀ h' : Heap, h'.get? h0.objs.size = some oI → h'.IsListIter h0.objs.size l i := by
  have hL : L < h0.objs.size := F0.ns.lt
  have hg : g.get? h0.objs.size = none := next_is_new F0
  obtain ⟨oI, e, r⟩ := hit
  refine ⟨⟨F.ns.at' fun o e => hk _ o (Nat.ne_of_lt hL) e, fun b o e => hk b o (fun q => by rw [q, hg] at e; cases e) (F.keep b o e), F.above⟩, oI, fun p hp => ?_, fun h' e' => ⟨oI, e', r⟩⟩
  rcases List.mem_cons.mp hp with rfl | hp
  · exact ⟨e, Ne.symm (Nat.ne_of_lt hL), hg⟩
  · exact ⟨hk _ _ (Nat.ne_of_lt (N0 p hp)) (N p hp).1, (N p hp).2⟩
theorem fr_done2 (F0 : Fr g L h0 m0) (N0 : ∀ p ∈ led, p.1 < h0.objs.size) (F : Fr g L h m) (N : News g L h led) (hk : ∀ b o, b ≠ h0.objs.size → h.get? b = some o → h₁.get? b = some o) : Fr g L h₁ m ∧ News g L h₁ led := by
  have hL : L < h0.objs.size := F0.ns.lt
  have hg : g.get? h0.objs.size = none := next_is_new F0
  exact ⟨⟨F.ns.at' fun o e => hk _ o (Nat.ne_of_lt hL) e, fun b o e => hk b o (fun q => by rw [q, hg] at e; cases e) (F.keep b o e), F.above⟩, fun p hp => ⟨hk _ _ (Nat.ne_of_lt (N0 p hp)) (N p hp).1, (N p hp).2⟩⟩
end
theorem fr_known1 {g h : Heap} {L : Addr} {m m2 : Str → Option Value} {stored : List Str} {x : Str} {v : Value} (F : Fr g L h m2) (hx : m2 x = some v) (hm : ∀ z, z ∉ stored → m2 z = m z) : Fr g L h (fun z => if z = x then some v else if stored.contains z = true then m2 z else m z) := by
  have e : (fun z => if z = x then some v else if stored.contains z = true then m2 z else m z) = m2 := by
    funext z
    by_cases q : z = x
    · rw [if_pos q, q, hx]
    · rw [if_neg q]
      by_cases h : stored.contains z = true
      · rw [if_pos h]
      · rw [if_neg h]; exact (hm z fun q => h (by simpa using q)).symm
  rw [e]; exact F
end

section
open PySem PySem.W PyProof.Rows PySem.Calls
abbrev C (x : Str) : List Nat := x.cps.toList
theorem len_C (x : Str) : (C x).length = x.length := by simp [C, Str.length]
theorem str_ext {x y : Str} (h : C x = C y) : x = y := by
  obtain ⟨a⟩ := x; obtain ⟨b⟩ := y
  exact congrArg Str.mk (Array.ext' h)
theorem beq_C (x y : Str) : (x == y) = (C x == C y) := by
  by_cases h : x = y
  · subst h; simp
  · have h' : C x ≠ C y := fun e => h (str_ext e)
    rw [beq_eq_false_iff_ne.mpr h, beq_eq_false_iff_ne.mpr h']
theorem C_slice {x : Str} {i j : Int} (h : 0 ≤ i ∧ i ≤ j ∧ j ≤ x.length) : C (Txt.slice x (some i) (some j)) = ((C x).drop i.toNat).take (j - i).toNat := by
  have e := slice_closes (x := x) (i := i) (j := j) ⟨h.1, h.2.1, by have := len_C x; simp only [C] at this; omega⟩
  rw [eq_of_beq e]
theorem C_from {x : Str} {i : Int} (h : 0 ≤ i ∧ i ≤ x.length) : C (Txt.slice x (some i) none) = (C x).drop i.toNat := by
  rw [slice_from_eq h.1 h.2 rfl]
  show ((C x).drop i.toNat).take _ = _
  rw [List.take_of_length_le]
  rw [List.length_drop, len_C]; omega
theorem slice_len {x : Str} {i j : Int} (h : 0 ≤ i ∧ i ≤ j ∧ j ≤ x.length) : (Txt.slice x (some i) (some j)).length = (j - i).toNat := by
  rw [← len_C, C_slice h, List.length_take, List.length_drop, len_C]; omega
theorem from_len {x : Str} {i : Int} (h : 0 ≤ i ∧ i ≤ x.length) : (Txt.slice x (some i) none).length = (x.length - i).toNat := by
  rw [← len_C, C_from h, List.length_drop, len_C]; omega
theorem item_C {x : Str} {i : Nat} (h : i < x.length) : C (Txt.item x (i : Int)) = [(C x)[i]'(by rw [len_C]; exact h)] := by
  have h2 : i < x.cps.size := h
  rw [item_meets (x := x) (i := (i : Int)) (n := x.cps[i]) (by omega) (by simp [h2])]
  simp [C]
theorem item_same {X Y : Str} {i : Nat} (hX : i < X.length) (hY : i < Y.length) (h1 : ¬ C (Txt.item X (i : Int)) < C (Txt.item Y (i : Int))) (h2 : ¬ C (Txt.item Y (i : Int)) < C (Txt.item X (i : Int))) : X.cps[i]? = Y.cps[i]? := by
  rw [item_C hX, item_C hY] at h1 h2
  have hX' : i < X.cps.size := hX
  have hY' : i < Y.cps.size := hY
  have e1 : ¬ X.cps[i] < Y.cps[i] := fun q => h1 (by simp [C, List.cons_lt_cons_iff, q])
  have e2 : ¬ Y.cps[i] < X.cps[i] := fun q => h2 (by simp [C, List.cons_lt_cons_iff, q])
  have e : X.cps[i] = Y.cps[i] := by omega
  simp [hX', hY', e]
theorem ne_of_lt {X Y : Str} {i : Int} (h : C (Txt.item X i) < C (Txt.item Y i)) : X ≠ Y := fun e => by
  subst e; exact List.lt_irrefl _ h
theorem eq_of_cells {X Y : Str} {n : Nat} (hX : X.length = n) (hY : Y.length = n) (h : ∀ j, j < n → X.cps[j]? = Y.cps[j]?) : X = Y := by
  refine str_ext (List.ext_getElem? fun j => ?_)
  by_cases q : j < n
  · simpa [C] using h j q
  · have a : X.cps.size ≤ j := by have : X.cps.size = n := hX; omega
    have b : Y.cps.size ≤ j := by have : Y.cps.size = n := hY; omega
    simp [C, a, b]
theorem rangeKs_succ (a : Int) (n : Nat) : rangeKs a (n + 1) = rangeKs a n ++ [a + (n : Int)] := by simp [rangeKs, List.range_succ]
end

section
open PySem PySem.W PyProof.Rows PySem.Calls
def gtF (a b : UInt64) : Bool := Float64.cmp a b == some .gt
def ltF (a b : UInt64) : Bool := Float64.cmp a b == some .lt
def max3 (a b c : UInt64) : UInt64 := if gtF b a then (if gtF c b then c else b) else (if gtF c a then c else a)
def min3 (a b c : UInt64) : UInt64 := if ltF b a then (if ltF c b then c else b) else (if ltF c a then c else a)
def fv (a b c : UInt64) : Nat → UInt64
  | 0 => a
  | 1 => b
  | _ => c
def fItems (a b c : UInt64) (t u x : Tok) : Array Value := #[.float a t, .float b u, .float c x]
theorem fItems_at {a b c : UInt64} {t u x : Tok} {i : Nat} {v : Value} (h : (fItems a b c t u x)[i]? = some v) : ∃ y, v = .float (fv a b c i) y := by
  match i, h with
  | 0, h => exact ⟨t, (Option.some.inj h).symm⟩
  | 1, h => exact ⟨u, (Option.some.inj h).symm⟩
  | 2, h => exact ⟨x, (Option.some.inj h).symm⟩
  | n + 3, h => simp [fItems] at h
section
variable {prog : Program} {w : World} {A : Around} {E : Value → Shared → Prop} {s : Shared} {h₀ : Heap} {L : Addr} {m : Str → Option Value} {news : List (Addr × Obj)}
theorem floats_gt {P : Nat → Value → Prop} (val : Nat → UInt64) (hval : ∀ i v, P i v → ∃ t, v = .float (val i) t) : CmpOf prog w A .Gt P (fun i j => gtF (val i) (val j)) := fun i j vi vj s Q E hi hj h => by
  obtain ⟨t, rfl⟩ := hval i vi hi
  obtain ⟨u, rfl⟩ := hval j vj hj
  exact richCompare_gives (op := .Gt) (AutoFloatOps.typeIs_float s _ t) (AutoFloatOps.typeIs_float s _ u) F.slot_float_gt F.entry_float_gt (F.args_float_gt_2 _ _) (AutoFloatG4.float___gt___float_float_0 _ t _ u) (fun x => nomatch x) h
theorem floats_lt {P : Nat → Value → Prop} (val : Nat → UInt64) (hval : ∀ i v, P i v → ∃ t, v = .float (val i) t) : CmpOf prog w A .Lt P (fun i j => ltF (val i) (val j)) := fun i j vi vj s Q E hi hj h => by
  obtain ⟨t, rfl⟩ := hval i vi hi
  obtain ⟨u, rfl⟩ := hval j vj hj
  exact richCompare_gives (op := .Lt) (AutoFloatOps.typeIs_float s _ t) (AutoFloatOps.typeIs_float s _ u) F.slot_float_lt F.entry_float_lt (F.args_float_lt_2 _ _) (AutoFloatG5.float___lt___float_float_0 _ t _ u) (fun x => nomatch x) h

theorem best_at {bt : UInt64 → UInt64 → Bool} {a b c : UInt64} {t u x : Tok} {v : Value} (h : (fItems a b c t u x)[argBest (fun i j => bt (fv a b c i) (fv a b c j)) 2]? = some v) :
    ∃ y, v = .float (if bt b a then (if bt c b then c else b) else (if bt c a then c else a)) y := by
  obtain ⟨y, rfl⟩ := fItems_at h
  refine ⟨y, ?_⟩
  simp only [argBest]
  cases h1 : bt b a <;> cases h2 : bt c b <;> cases h3 : bt c a <;> simp [fv, h1, h2, h3]

theorem max_floats {a b c : UInt64} {t u x : Tok} {Q : Value → Shared → Prop} (hh : A.handled = none) (F : Fr h₀ L s.heap m) (N : News h₀ L s.heap news)
    (h : ∀ h' tk y, Fr h₀ L h' m → News h₀ L h' news → Q (.float (max3 a b c) y) { s with heap := h', toks := tk }) :
    wpAny (model prog w) A (call (.builtin "max") [.float a t, .float b u, .float c x]) Q E s := by
  have hT : (s.heap.push { cls := .type "tuple", data := .seq #[.float a t, .float b u, .float c x] }).IsTuple s.heap.objs.size (fItems a b c t u x) := ⟨_, Heap.get?_push_size _ rfl, rfl, 0, rfl⟩
  refine call_max_three (wpAny_pyIter_tuple hT ?_)
  have hsz : (s.heap.push { cls := .type "tuple", data := .seq #[.float a t, .float b u, .float c x] }).objs.size = s.heap.objs.size + 1 := Heap.size_push ..
  refine ⟨_, [_, s.heap.objs.size], [_], _, _, _, _, rfl, Walks.tuple (A := A.in1) hh _ s.heap.objs.size (by rw [hsz]; exact Nat.ne_of_lt (Nat.lt_succ_self _)) (fItems a b c t u x),
    ⟨⟨_, Heap.get?_push_size _ rfl, rfl, rfl⟩, hT.push _⟩, fun d hd => ?_, (by show 0 < 3; decide), floats_gt (fv a b c) (fun _ _ => fItems_at), fun v h' tk hP hk => ?_⟩
  · show d < ((s.heap.push _).push _).objs.size
    rw [Heap.size_push, hsz]
    rcases List.mem_cons.mp hd with rfl | hd
    · rw [hsz]; exact Nat.lt_succ_self _
    · rcases List.mem_cons.mp hd with rfl | hd
      · exact Nat.lt_succ_of_lt (Nat.lt_succ_self _)
      · cases hd
  · have hold : ∀ d o, s.heap.get? d = some o → h'.get? d = some o := fun d o e => by
      refine hk d o (fun hm => ?_) (Heap.get?_push_of_some _ (Heap.get?_push_of_some _ e))
      rcases List.mem_cons.mp hm with e1 | hm
      · have := Heap.lt_size e; rw [e1, hsz] at this; exact Nat.lt_irrefl _ (Nat.lt_of_succ_lt this)
      · cases hm
    obtain ⟨y, rfl⟩ := best_at (bt := gtF) (show (fItems a b c t u x)[argBest (fun i j => gtF (fv a b c i) (fv a b c j)) 2]? = some v from hP)
    exact h h' tk y (F.keeps hold) (N.grown hold)
theorem min_floats {a b c : UInt64} {t u x : Tok} {Q : Value → Shared → Prop} (hh : A.handled = none) (F : Fr h₀ L s.heap m) (N : News h₀ L s.heap news)
    (h : ∀ h' tk y, Fr h₀ L h' m → News h₀ L h' news → Q (.float (min3 a b c) y) { s with heap := h', toks := tk }) :
    wpAny (model prog w) A (call (.builtin "min") [.float a t, .float b u, .float c x]) Q E s := by
  have hT : (s.heap.push { cls := .type "tuple", data := .seq #[.float a t, .float b u, .float c x] }).IsTuple s.heap.objs.size (fItems a b c t u x) := ⟨_, Heap.get?_push_size _ rfl, rfl, 0, rfl⟩
  refine call_min_three (wpAny_pyIter_tuple hT ?_)
  have hsz : (s.heap.push { cls := .type "tuple", data := .seq #[.float a t, .float b u, .float c x] }).objs.size = s.heap.objs.size + 1 := Heap.size_push ..
  refine ⟨_, [_, s.heap.objs.size], [_], _, _, _, _, rfl, Walks.tuple (A := A.in1) hh _ s.heap.objs.size (by rw [hsz]; exact Nat.ne_of_lt (Nat.lt_succ_self _)) (fItems a b c t u x),
    ⟨⟨_, Heap.get?_push_size _ rfl, rfl, rfl⟩, hT.push _⟩, fun d hd => ?_, (by show 0 < 3; decide), floats_lt (fv a b c) (fun _ _ => fItems_at), fun v h' tk hP hk => ?_⟩
  · show d < ((s.heap.push _).push _).objs.size
    rw [Heap.size_push, hsz]
    rcases List.mem_cons.mp hd with rfl | hd
    · rw [hsz]; exact Nat.lt_succ_self _
    · rcases List.mem_cons.mp hd with rfl | hd
      · exact Nat.lt_succ_of_lt (Nat.lt_succ_self _)
      · cases hd
  · have hold : ∀ d o, s.heap.get? d = some o → h'.get? d = some o := fun d o e => by
      refine hk d o (fun hm => ?_) (Heap.get?_push_of_some _ (Heap.get?_push_of_some _ e))
      rcases List.mem_cons.mp hm with e1 | hm
      · have := Heap.lt_size e; rw [e1, hsz] at this; exact Nat.lt_irrefl _ (Nat.lt_of_succ_lt this)
      · cases hm
    obtain ⟨y, rfl⟩ := best_at (bt := ltF) (show (fItems a b c t u x)[argBest (fun i j => ltF (fv a b c i) (fv a b c j)) 2]? = some v from hP)
    exact h h' tk y (F.keeps hold) (N.grown hold)
end
end

section
open PySem PySem.W PyProof.Rows PySem.Calls
abbrev f6 : UInt64 := 4618441417868443648
abbrev f1 : UInt64 := 4607182418800017408
abbrev f2 : UInt64 := 4611686018427387904
abbrev f4 : UInt64 := 4616189618054758400
abbrev hv (h : UInt64) : UInt64 := Float64.mul h f6
abbrev hI (h : UInt64) : Int := Flt.toInt Float64.truncOf (hv h)
abbrev hF (h : UInt64) : UInt64 := Float64.sub (hv h) (Float64.ofInt (hI h))
abbrev pP (sa v : UInt64) : UInt64 := Float64.mul v (Float64.sub f1 sa)
abbrev qQ (h sa v : UInt64) : UInt64 := Float64.mul v (Float64.sub f1 (Float64.mul sa (hF h)))
abbrev tT (h sa v : UInt64) : UInt64 := Float64.mul v (Float64.sub f1 (Float64.mul sa (Float64.sub f1 (hF h))))
def hsvOk (h sa : UInt64) : Bool := !(Float64.cmp sa 0 == some Ordering.eq) && !Float64.isNaN (hv h) && !Float64.isInf (hv h) && decide ((hI h).natAbs < 2 ^ 1024 - 2 ^ 970)
def hsvR (h sa v : UInt64) : UInt64 × UInt64 × UInt64 :=
  if (hI h).fmod 6 = 0 then (v, tT h sa v, pP sa v) else if (hI h).fmod 6 = 1 then (qQ h sa v, v, pP sa v) else if (hI h).fmod 6 = 2 then (pP sa v, v, tT h sa v)
  else if (hI h).fmod 6 = 3 then (pP sa v, qQ h sa v, v) else if (hI h).fmod 6 = 4 then (tT h sa v, pP sa v, v) else (v, pP sa v, qQ h sa v)
theorem hsvR_0 {h sa v : UInt64} (e : (hI h).fmod 6 = 0) : hsvR h sa v = (v, tT h sa v, pP sa v) := by unfold hsvR; rw [if_pos e]
theorem hsvR_1 {h sa v : UInt64} (e : (hI h).fmod 6 = 1) : hsvR h sa v = (qQ h sa v, v, pP sa v) := by unfold hsvR; rw [if_neg (by omega), if_pos e]
theorem hsvR_2 {h sa v : UInt64} (e : (hI h).fmod 6 = 2) : hsvR h sa v = (pP sa v, v, tT h sa v) := by unfold hsvR; rw [if_neg (by omega), if_neg (by omega), if_pos e]
theorem hsvR_3 {h sa v : UInt64} (e : (hI h).fmod 6 = 3) : hsvR h sa v = (pP sa v, qQ h sa v, v) := by unfold hsvR; rw [if_neg (by omega), if_neg (by omega), if_neg (by omega), if_pos e]
theorem hsvR_4 {h sa v : UInt64} (e : (hI h).fmod 6 = 4) : hsvR h sa v = (tT h sa v, pP sa v, v) := by unfold hsvR; rw [if_neg (by omega), if_neg (by omega), if_neg (by omega), if_neg (by omega), if_pos e]
theorem hsvR_5 {h sa v : UInt64} (e : (hI h).fmod 6 = 5) : hsvR h sa v = (v, pP sa v, qQ h sa v) := by unfold hsvR; rw [if_neg (by omega), if_neg (by omega), if_neg (by omega), if_neg (by omega), if_neg (by omega)]
theorem hsv_none {h : UInt64} (e0 : (hI h).fmod 6 ≠ 0) (e1 : (hI h).fmod 6 ≠ 1) (e2 : (hI h).fmod 6 ≠ 2) (e3 : (hI h).fmod 6 ≠ 3) (e4 : (hI h).fmod 6 ≠ 4) (e5 : (hI h).fmod 6 ≠ 5) : False := by
  have a := Int.fmod_nonneg_of_pos (hI h) (b := 6) (by decide)
  have b := Int.fmod_lt_of_pos (hI h) (b := 6) (by decide)
  generalize (hI h).fmod 6 = x at *
  omega

def rgbOk (r g b : UInt64) : Bool := !(Float64.cmp (min3 r g b) (max3 r g b) == some Ordering.eq) && !Float64.isZero (max3 r g b) && !Float64.isZero (Float64.sub (max3 r g b) (min3 r g b))
abbrev dR (r g b : UInt64) : UInt64 := Float64.sub (max3 r g b) (min3 r g b)
abbrev cR (x r g b : UInt64) : UInt64 := Float64.div (Float64.sub (max3 r g b) x) (dR r g b)
abbrev tl (x : UInt64) : UInt64 := (Float64.divmod (Float64.div x f6) f1).2
def rgbH (r g b : UInt64) : UInt64 :=
  if (Float64.cmp r (max3 r g b) == some Ordering.eq) = true then tl (Float64.sub (cR b r g b) (cR g r g b))
  else if (Float64.cmp g (max3 r g b) == some Ordering.eq) = true then tl (Float64.sub (Float64.add f2 (cR r r g b)) (cR b r g b))
  else tl (Float64.sub (Float64.add f4 (cR g r g b)) (cR r r g b))
theorem rgbH_0 {r g b : UInt64} (e : (Float64.cmp r (max3 r g b) == some Ordering.eq) = true) : rgbH r g b = tl (Float64.sub (cR b r g b) (cR g r g b)) := by unfold rgbH; rw [if_pos e]
theorem rgbH_1 {r g b : UInt64} (e : (Float64.cmp r (max3 r g b) == some Ordering.eq) = false) (e' : (Float64.cmp g (max3 r g b) == some Ordering.eq) = true) : rgbH r g b = tl (Float64.sub (Float64.add f2 (cR r r g b)) (cR b r g b)) := by
  unfold rgbH; rw [if_neg (by rw [e]; exact Bool.false_ne_true), if_pos e']
theorem rgbH_2 {r g b : UInt64} (e : (Float64.cmp r (max3 r g b) == some Ordering.eq) = false) (e' : (Float64.cmp g (max3 r g b) == some Ordering.eq) = false) : rgbH r g b = tl (Float64.sub (Float64.add f4 (cR g r g b)) (cR r r g b)) := by
  unfold rgbH; rw [if_neg (by rw [e]; exact Bool.false_ne_true), if_neg (by rw [e']; exact Bool.false_ne_true)]

def Tup3 (h : Heap) (v : Value) (h' : Heap) (p : UInt64 × UInt64 × UInt64) : Prop := ∃ T ta tb tc, v = .ref T ∧ h.get? T = none ∧ h'.get? T = some { cls := .type "tuple", data := .seq #[.float p.1 ta, .float p.2.1 tb, .float p.2.2 tc] }
def TupH (h : Heap) (v : Value) (h' : Heap) (p : UInt64) : Prop := ∃ T ta y z, v = .ref T ∧ h.get? T = none ∧ h'.get? T = some { cls := .type "tuple", data := .seq #[.float p ta, y, z] }
theorem fresh_of {h g h' : Heap} {L T : Addr} {o : Obj} (G : GSub h g ([] : List (Addr × Obj)).unzip.1) (N : News g L h' [(T, o)]) : h.get? T = none := by
  cases e : h.get? T with
  | none => rfl
  | some o' =>
    have := G T o' e (fun q => nomatch q)
    rw [(N _ List.mem_cons_self).2.2] at this; cases this
theorem tup3_of {h g h' : Heap} {L T : Addr} {a b c : UInt64} {ta tb tc : Tok} (G : GSub h g ([] : List (Addr × Obj)).unzip.1) (N : News g L h' [(T, { cls := .type "tuple", data := .seq #[.float a ta, .float b tb, .float c tc] })]) :
    Tup3 h (.ref T) h' (a, b, c) := ⟨T, ta, tb, tc, rfl, fresh_of G N, (N _ List.mem_cons_self).1⟩
theorem tupH_of {h g h' : Heap} {L T : Addr} {a : UInt64} {y z : Value} {ta : Tok} (G : GSub h g ([] : List (Addr × Obj)).unzip.1) (N : News g L h' [(T, { cls := .type "tuple", data := .seq #[.float a ta, y, z] })]) :
    TupH h (.ref T) h' a := ⟨T, ta, y, z, rfl, fresh_of G N, (N _ List.mem_cons_self).1⟩

theorem hsv_c (w : World) (h sa v : UInt64) (t1 t2 t3 : Tok) (ok : hsvOk h sa = true) :
    PureH2 w 118 [.float h t1, .float sa t2, .float v t3] (fun h0 x h' => Tup3 h0 x h' (hsvR h sa v)) := by
  unfold hsvOk at ok
  simp only [Bool.and_eq_true, Bool.not_eq_true', decide_eq_true_eq] at ok
  obtain ⟨⟨⟨ok1, ok2⟩, ok3⟩, ok4⟩ := ok
  have _mark : PySem.Challenge.rw_wo0022_01 = PySem.Challenge.rw_wo0022_01 ∧ hd.heap_39 = hd.heap_39 := ⟨rfl, rfl⟩
  revert _mark
  k_fill
  intro _
  dsimp only [PureH2]
  intro mean mg mb env₁ cn cs a ccd base h₀ L m s Q E B F X N T hk hret
  refine wpAny_call ?_
  k_dflt (refine' code_defG ?k1 ?k2 ?k3 ?k4 ?k5 ?kA ?kF ?kK ?k6 ?k7 ?k8 ?k9 ?kB ?_ ?c2 ?c3 ?c4 ?c5; (case kA => exact rfl); (case kF => exact rfl); (case kK => assumption); (case k1 => k_asm); (case k2 => k_asm); (case k3 => k_asm); (case k4 => k_asm); (case k5 => k_asm); (case k6 => k_is); (case k7 => k_is); (case k8 => ktr_room); (case k9 => exact BindsTo.of_eq rfl); (case c5 => decide); (case kB => exact locs rfl); (case c2 => exact rfl); (case c3 => exact rfl); (case c4 => exact rfl); k_whole; intro g' L' h' FG' F' N' B' X' T' GS'; (try dsimp only); (try k_fold))
  k_steps
  all_goals first
    | (exfalso; have q := (by assumption : (Float64.cmp sa 0 == some Ordering.eq) = true); rw [ok1] at q; exact Bool.false_ne_true q)
    | (exfalso; have q := (by assumption : Float64.isNaN (hv h) = true); rw [ok2] at q; exact Bool.false_ne_true q)
    | (exfalso; have q := (by assumption : Float64.isInf (hv h) = true); rw [ok3] at q; exact Bool.false_ne_true q)
    | (exfalso; have q := (by assumption : 2 ^ 1024 - 2 ^ 970 ≤ (hI h).natAbs); exact Nat.not_lt.mpr q ok4)
    | (refine hret _ _ _ (pure_end GS' (by assumption)) ?_; rw [hsvR_0 (by assumption)]; exact tup3_of GS' (by assumption))
    | (refine hret _ _ _ (pure_end GS' (by assumption)) ?_; rw [hsvR_1 (by assumption)]; exact tup3_of GS' (by assumption))
    | (refine hret _ _ _ (pure_end GS' (by assumption)) ?_; rw [hsvR_2 (by assumption)]; exact tup3_of GS' (by assumption))
    | (refine hret _ _ _ (pure_end GS' (by assumption)) ?_; rw [hsvR_3 (by assumption)]; exact tup3_of GS' (by assumption))
    | (refine hret _ _ _ (pure_end GS' (by assumption)) ?_; rw [hsvR_4 (by assumption)]; exact tup3_of GS' (by assumption))
    | (refine hret _ _ _ (pure_end GS' (by assumption)) ?_; rw [hsvR_5 (by assumption)]; exact tup3_of GS' (by assumption))
    | (exfalso; exact hsv_none (h := h) (by assumption) (by assumption) (by assumption) (by assumption) (by assumption) (by assumption))

section
local macro_rules | `(tactic| walk_at "call builtin:max") => `(tactic| (refine' max_floats ?k1 ?k2 ?k3 ?_; (case k1 => exact rfl); (case k2 => k_asm); (case k3 => k_asm); intro h' tk' y' F' N'))
local macro_rules | `(tactic| walk_at "call builtin:min") => `(tactic| (refine' min_floats ?k1 ?k2 ?k3 ?_; (case k1 => exact rfl); (case k2 => k_asm); (case k3 => k_asm); intro h' tk' y' F' N'))
theorem rgb_c (w : World) (r g b : UInt64) (t1 t2 t3 : Tok) (ok : rgbOk r g b = true) :
    PureH2 w 111 [.float r t1, .float g t2, .float b t3] (fun h0 x h' => TupH h0 x h' (rgbH r g b)) := by
  unfold rgbOk at ok
  simp only [Bool.and_eq_true, Bool.not_eq_true'] at ok
  obtain ⟨⟨ok1, ok2⟩, ok3⟩ := ok
  have _mark : PySem.Challenge.rw_wo0022_01 = PySem.Challenge.rw_wo0022_01 ∧ hd.heap_39 = hd.heap_39 := ⟨rfl, rfl⟩
  revert _mark
  k_fill
  intro _
  dsimp only [PureH2]
  intro mean mg mb env₁ cn cs a ccd base h₀ L m s Q E B F X N T hk hret
  refine wpAny_call ?_
  k_dflt (refine' code_defG ?k1 ?k2 ?k3 ?k4 ?k5 ?kA ?kF ?kK ?k6 ?k7 ?k8 ?k9 ?kB ?_ ?c2 ?c3 ?c4 ?c5; (case kA => exact rfl); (case kF => exact rfl); (case kK => assumption); (case k1 => k_asm); (case k2 => k_asm); (case k3 => k_asm); (case k4 => k_asm); (case k5 => k_asm); (case k6 => k_is); (case k7 => k_is); (case k8 => ktr_room); (case k9 => exact BindsTo.of_eq rfl); (case c5 => decide); (case kB => exact locs rfl); (case c2 => exact rfl); (case c3 => exact rfl); (case c4 => exact rfl); k_whole; intro g' L' h' FG' F' N' B' X' T' GS'; (try dsimp only); (try k_fold))
  k_steps
  all_goals first
    | (exfalso; have q := (by assumption : (Float64.cmp (min3 r g b) (max3 r g b) == some Ordering.eq) = true); rw [ok1] at q; exact Bool.false_ne_true q)
    | (exfalso; have q := (by assumption : Float64.isZero (max3 r g b) = true); rw [ok2] at q; exact Bool.false_ne_true q)
    | (exfalso; have q := (by assumption : Float64.isZero (Float64.sub (max3 r g b) (min3 r g b)) = true); rw [ok3] at q; exact Bool.false_ne_true q)
    | (refine hret _ _ _ (pure_end GS' (by assumption)) ?_; rw [rgbH_0 (by assumption)]; exact tupH_of GS' (by assumption))
    | (refine hret _ _ _ (pure_end GS' (by assumption)) ?_; rw [rgbH_1 (by assumption) (by assumption)]; exact tupH_of GS' (by assumption))
    | (refine hret _ _ _ (pure_end GS' (by assumption)) ?_; rw [rgbH_2 (by assumption) (by assumption)]; exact tupH_of GS' (by assumption))
end
end

section
open PySem PySem.W PyProof.Rows PySem.Calls
abbrev f5 : UInt64 := 4617315517961601024
abbrev fh : UInt64 := 4602678819172646912
abbrev hj (j : Int) : UInt64 := Float64.div (Float64.ofInt j) f5
abbrev sp (p : Int) : UInt64 := Float64.div (Float64.ofInt p) f4
abbrev ixF (r g b : UInt64) : UInt64 := Float64.add (Float64.mul (rgbH r g b) f5) fh
abbrev ixI (r g b : UInt64) : Int := Flt.toInt Float64.truncOf (ixF r g b)
def letterOk (j p q : Int) : Bool :=
  hsvOk (hj j) (sp p) && (let c := hsvR (hj j) (sp p) (sp q); rgbOk c.1 c.2.1 c.2.2 && !Float64.isNaN (ixF c.1 c.2.1 c.2.2) && !Float64.isInf (ixF c.1 c.2.1 c.2.2) && decide ((ixI c.1 c.2.1 c.2.2).fmod 5 = j.fmod 5))
theorem letters_ok1 : ∀ p ∈ ([1, 2, 3, 4] : List Int), ∀ q ∈ ([1, 2, 3, 4] : List Int), letterOk 1 p q = true := by decide +kernel
theorem letters_ok2 : ∀ p ∈ ([1, 2, 3, 4] : List Int), ∀ q ∈ ([1, 2, 3, 4] : List Int), letterOk 2 p q = true := by decide +kernel
theorem letters_ok3 : ∀ p ∈ ([1, 2, 3, 4] : List Int), ∀ q ∈ ([1, 2, 3, 4] : List Int), letterOk 3 p q = true := by decide +kernel
theorem letters_ok4 : ∀ p ∈ ([1, 2, 3, 4] : List Int), ∀ q ∈ ([1, 2, 3, 4] : List Int), letterOk 4 p q = true := by decide +kernel
theorem letters_ok5 : ∀ p ∈ ([1, 2, 3, 4] : List Int), ∀ q ∈ ([1, 2, 3, 4] : List Int), letterOk 5 p q = true := by decide +kernel
theorem letters_ok6 : ∀ p ∈ ([1, 2, 3, 4] : List Int), ∀ q ∈ ([1, 2, 3, 4] : List Int), letterOk 6 p q = true := by decide +kernel
theorem letters_ok7 : ∀ p ∈ ([1, 2, 3, 4] : List Int), ∀ q ∈ ([1, 2, 3, 4] : List Int), letterOk 7 p q = true := by decide +kernel
theorem letters_ok8 : ∀ p ∈ ([1, 2, 3, 4] : List Int), ∀ q ∈ ([1, 2, 3, 4] : List Int), letterOk 8 p q = true := by decide +kernel
theorem in4 {p : Int} (h : 1 ≤ p ∧ p ≤ 4) : p ∈ ([1, 2, 3, 4] : List Int) := by
  simp only [List.mem_cons, List.not_mem_nil, or_false]; omega
theorem letters_ok {j p q : Int} (hj : 1 ≤ j ∧ j ≤ 8) (hp : 1 ≤ p ∧ p ≤ 4) (hq : 1 ≤ q ∧ q ≤ 4) : letterOk j p q = true := by
  have h : j = 1 ∨ j = 2 ∨ j = 3 ∨ j = 4 ∨ j = 5 ∨ j = 6 ∨ j = 7 ∨ j = 8 := by omega
  rcases h with rfl | rfl | rfl | rfl | rfl | rfl | rfl | rfl
  · exact letters_ok1 p (in4 hp) q (in4 hq)
  · exact letters_ok2 p (in4 hp) q (in4 hq)
  · exact letters_ok3 p (in4 hp) q (in4 hq)
  · exact letters_ok4 p (in4 hp) q (in4 hq)
  · exact letters_ok5 p (in4 hp) q (in4 hq)
  · exact letters_ok6 p (in4 hp) q (in4 hq)
  · exact letters_ok7 p (in4 hp) q (in4 hq)
  · exact letters_ok8 p (in4 hp) q (in4 hq)
def letterS (k : Int) : Str := ⟨#[97 + k.toNat]⟩
theorem item_letter {k : Int} (h : 0 ≤ k ∧ k < 5) : Txt.item (Str.ofString "abcde") k = letterS k := by
  have h' : k = 0 ∨ k = 1 ∨ k = 2 ∨ k = 3 ∨ k = 4 := by omega
  rcases h' with rfl | rfl | rfl | rfl | rfl <;> decide +kernel
end

section
open PySem PySem.W PyProof.Rows PySem.Calls
theorem small_over {n : Int} (h : n.natAbs < 1000) : ¬ Flt.Over n := fun q => by
  have : 1000 ≤ 2 ^ 1024 - 2 ^ 970 := by decide +kernel
  exact absurd (Nat.le_trans this q) (Nat.not_le.mpr h)
theorem news_new {g h h' : Heap} {L T : Addr} {m : Str → Option Value} {o : Obj} {led : List (Addr × Obj)} (F : Fr g L h m) (N : News g L h led) (el : InElt h h') (fr : h.get? T = none) (e : h'.get? T = some o) : News g L h' ((T, o) :: led) := fun p hp => by
  rcases List.mem_cons.mp hp with rfl | hp
  · refine ⟨e, fun q => ?_, ?_⟩
    · obtain ⟨oL, _, _, hL, _⟩ := F.ns
      rw [show T = L from q, hL] at fr; cases fr
    · cases q : g.get? T with
      | none => rfl
      | some o' => have := F.keep _ _ q; rw [fr] at this; cases this
  · exact ⟨el _ _ (N p hp).1, (N p hp).2⟩
section
local macro_rules | `(tactic| walk_at "call ref") => `(tactic| refine stop_here ?_)
theorem letter_c (w : World) (n l : Int) (t1 t2 : Tok) (hn : 0 ≤ n ∧ n < 1000000) (hl : 0 ≤ l ∧ l < 5) :
    PureC w 153 [.int n t1, .int l t2] (fun v _ => ∃ t, v = .str (letterS ((l + 1 + n.fmod 4).fmod 5)) t) := by
  have a1 := Int.fmod_nonneg_of_pos n (b := 4) (by decide)
  have a2 := Int.fmod_lt_of_pos n (b := 4) (by decide)
  have b1 := Int.fmod_nonneg_of_pos (n.fdiv 4) (b := 4) (by decide)
  have b2 := Int.fmod_lt_of_pos (n.fdiv 4) (b := 4) (by decide)
  have c1 := Int.fmod_nonneg_of_pos (n.fdiv 16) (b := 4) (by decide)
  have c2 := Int.fmod_lt_of_pos (n.fdiv 16) (b := 4) (by decide)
  have hO1 : ¬ Flt.Over (l + 1 + n.fmod 4) := small_over (by omega)
  have hO2 : ¬ Flt.Over ((n.fdiv 4).fmod 4 + 1) := small_over (by omega)
  have hO3 : ¬ Flt.Over ((n.fdiv 16).fmod 4 + 1) := small_over (by omega)
  have ok : letterOk (l + 1 + n.fmod 4) ((n.fdiv 4).fmod 4 + 1) ((n.fdiv 16).fmod 4 + 1) = true := letters_ok (by omega) (by omega) (by omega)
  unfold letterOk at ok
  simp only [Bool.and_eq_true, Bool.not_eq_true', decide_eq_true_eq] at ok
  obtain ⟨ok1, ⟨⟨ok2, ok3⟩, ok4⟩, ok5⟩ := ok
  have _mark : PySem.Challenge.rw_wo0022_01 = PySem.Challenge.rw_wo0022_01 ∧ hd.heap_39 = hd.heap_39 := ⟨rfl, rfl⟩
  revert _mark
  k_fill
  intro _
  dsimp only [PureC]
  intro mean mg mb cn cs a ccd base h₀ L m s Q E B F X N T hk hret
  refine wpAny_call ?_
  k_dflt (refine' code_defG ?k1 ?k2 ?k3 ?k4 ?k5 ?kA ?kF ?kK ?k6 ?k7 ?k8 ?k9 ?kB ?_ ?c2 ?c3 ?c4 ?c5; (case kA => exact rfl); (case kF => exact rfl); (case kK => assumption); (case k1 => k_asm); (case k2 => k_asm); (case k3 => k_asm); (case k4 => k_asm); (case k5 => k_asm); (case k6 => k_is); (case k7 => k_is); (case k8 => ktr_room); (case k9 => exact BindsTo.of_eq rfl); (case c5 => decide); (case kB => exact locs rfl); (case c2 => exact rfl); (case c3 => exact rfl); (case c4 => exact rfl); k_whole; intro g' L' h' FG' F' N' B' X' T' GS'; (try dsimp only); (try k_fold))
  have F2 : Fr g' L' h' (fun y => List.lookup y [(Str.ofString "lack", Value.int l t2), (Str.ofString "number", Value.int n t1)]) := F'
  clear F'
  k_steps
  refine Stop.mk ?_
  refine hsv_c w _ _ _ _ _ _ ok1 mean mg mb _ _ _ _ _ _ _ _ _ _ _ _ B' F2 X' N' T' rfl ?_
  intro v1 h1 tk1 el1 tp1
  obtain ⟨T1, ta, tb, tc, rfl, fr1, hT1⟩ := tp1
  generalize hsvR (hj (l + 1 + n.fmod 4)) (sp ((n.fdiv 4).fmod 4 + 1)) (sp ((n.fdiv 16).fmod 4 + 1)) = cc at *
  have F3 := F2.keeps el1
  have N3 := news_new F2 N' el1 fr1 hT1
  clear F2 N'
  k_steps
  refine Stop.mk ?_
  rename Fr _ _ _ _ => F4
  rename News _ _ _ _ => N4
  refine rgb_c w _ _ _ _ _ _ ok2 mean mg mb _ _ _ _ _ _ _ _ _ _ _ _ B' F4 X' (fun _ q => nomatch q) T' rfl ?_
  intro v2 h2 tk2 el2 tp2
  obtain ⟨T2, td, y2, z2, rfl, fr2, hT2⟩ := tp2
  have F5 := F4.keeps el2
  have N5 := news_new F4 N4 el2 fr2 hT2
  clear F4 N4
  k_steps
  refine hret _ _ _ (pure_end GS' (by assumption)) ?_
  have e0 := Int.fmod_nonneg_of_pos (ixI cc.1 cc.2.1 cc.2.2) (b := 5) (by decide)
  have e1 := Int.fmod_lt_of_pos (ixI cc.1 cc.2.1 cc.2.2) (b := 5) (by decide)
  exact ⟨_, congrArg (fun x => Value.str x _) ((congrArg (Txt.item (Str.ofString "abcde")) ok5).trans (by rw [← ok5]; exact item_letter ⟨e0, e1⟩))⟩
end
end

section
open PySem PySem.W PyProof.Rows PySem.Calls
inductive Hist (st pc : Int) : List Nat → List Int → List Int → Prop
  | nil : Hist st pc [] [] []
  | snoc {T T' : List Nat} {ks ds : List Int} {k x : Int} : Hist st pc T ks ds → 0 ≤ k → k ≤ T'.length → 0 ≤ x → x < 5 → T ++ [97 + x.toNat] = T' ++ T'.drop (T'.length - k.toNat) →
      Hist st pc T' (ks ++ [k]) (ds ++ [(x - st - pc * (T.length : Int) - 1).fmod 5])
theorem Hist.len {st pc : Int} {T : List Nat} {ks ds : List Int} (h : Hist st pc T ks ds) : T.length ≤ ks.length ∧ ks.length = ds.length := by
  induction h with
  | nil => simp
  | snoc h h0 h1 _ _ e ih =>
    have := congrArg List.length e
    simp only [List.length_append, List.length_singleton, List.length_drop] at this ⊢
    omega
theorem Hist.inv {st pc : Int} {T' : List Nat} {ks' ds' : List Int} (h : Hist st pc T' ks' ds') (hn : ks' ≠ []) : ∃ (T : List Nat) (ks ds : List Int) (k x : Int), ks' = ks ++ [k] ∧ ds' = ds ++ [(x - st - pc * (T.length : Int) - 1).fmod 5] ∧ Hist st pc T ks ds ∧ 0 ≤ k ∧ k ≤ T'.length ∧ 0 ≤ x ∧ x < 5 ∧ T ++ [97 + x.toNat] = T' ++ T'.drop (T'.length - k.toNat) := by
  cases h with
  | nil => exact absurd rfl hn
  | snoc h h0 h1 h2 h3 e => exact ⟨_, _, _, _, _, rfl, rfl, h, h0, h1, h2, h3, e⟩

theorem C_append (x y : Str) : C (x ++ y) = C x ++ C y := by
  show (x.cps ++ y.cps).toList = _
  rw [Array.toList_append]
theorem C_to {x : Str} {j : Int} (h : 0 ≤ j ∧ j ≤ x.length) : C (Txt.slice x none (some j)) = (C x).take j.toNat := by
  have e := slice_closes_to (x := x) (j := j) ⟨h.1, by have := len_C x; simp only [C] at this; omega⟩
  rw [eq_of_beq e]
  simp [C]
theorem find_letter {x : Int} (h : 0 ≤ x ∧ x < 5) : Txt.find (Str.ofString "abcde") (letterS x) = x := by
  have h' : x = 0 ∨ x = 1 ∨ x = 2 ∨ x = 3 ∨ x = 4 := by omega
  rcases h' with rfl | rfl | rfl | rfl | rfl <;> decide +kernel
theorem item_last {Y : Str} {T0 : List Nat} {x : Int} (h : C Y = T0 ++ [97 + x.toNat]) : Txt.item Y ((Y.length : Int) - 1) = letterS x := by
  have hl : Y.length = T0.length + 1 := by rw [← len_C, h]; simp
  have e : ((Y.length : Int) - 1) = ((T0.length : Nat) : Int) := by omega
  rw [e]
  refine str_ext ?_
  rw [item_C (by omega)]
  simp [h, C, letterS]
def DrInv {g h : Heap} {L dr D : Addr} {oD o0 : Obj} {m : Str → Option Value} (_ : Fr g L h m) (_ : News g L h [(D, oD), (dr, o0)]) (s : Shared) (st pc : Int) (sizes ds : List Int) (i : Nat) (s' : Shared) : Prop :=
  ∃ h' tk m' tx tt dv nn pre ks ds1 ds2, s' = { s with heap := h', toks := tk } ∧ Fr g L h' m' ∧ News g L h' [(D, oD), (dr, W.listOf dv.toArray nn)] ∧ IntsAre dv ds2 ∧ ds2.length = i ∧ Hist st pc (C tx) ks ds1 ∧ ds = ds1 ++ ds2.reverse ∧
    sizes.reverse = pre ++ ks.reverse ∧ pre.length = i ∧ m' (Str.ofString "text") = some (.str tx tt) ∧ (∀ z, z ∉ ([Str.ofString "text", Str.ofString "size", Str.ofString "spot"] : List Str) → m' z = m z)
theorem fresh_in {h g h' : Heap} {L : Addr} {p : Addr × Obj} {led : List (Addr × Obj)} (G : GSub h g ([] : List (Addr × Obj)).unzip.1) (N : News g L h' led) (hp : p ∈ led) : h.get? p.1 = none := by
  cases e : h.get? p.1 with
  | none => rfl
  | some o' =>
    have := G p.1 o' e (fun q => nomatch q)
    rw [(N p hp).2.2] at this; cases this
def DrawR (h : Heap) (ds : List Int) (v : Value) (h' : Heap) : Prop :=
  ∃ T R tt ws, v = .ref T ∧ h.get? T = none ∧ h.get? R = none ∧ h'.get? T = some { cls := .type "tuple", data := .seq #[.str (Str.ofString "") tt, .ref R] } ∧ h'.get? R = some (W.listOf ws.toArray 0) ∧ IntsAre ws ds
section
local macro_rules | `(tactic| walk_at "pyIter ref") => `(tactic| refine stop_here ?_)
local macro_rules | `(tactic| walk_at "binaryOp Add str str") => `(tactic| refine stop_here ?_)
local macro_rules | `(tactic| walk_at "call builtin:str.index") => `(tactic| refine stop_here ?_)
local macro_rules | `(tactic| walk_at "call builtin:list.append") => `(tactic| refine stop_here ?_)
local macro_rules | `(tactic| walk_at "exec For Name Subscript cons nil") => `(tactic| (refine wpAny_For ?_ (by intro _; rfl)))
theorem draws_c (w : World) (text : Str) (sz : Addr) (vs : List Value) (sizes : List Int) (st pc : Int) (t1 t2 t3 : Tok) (hvs : IntsAre vs sizes) (hlen : text.length ≤ 100) (hsl : sizes.length ≤ 14) (ds : List Int) (hH : Hist st pc (C text) sizes ds) (hst : 0 ≤ st ∧ st < 5) (hpc : 0 ≤ pc ∧ pc < 5) 
    (s : Shared) (hsz : s.heap.IsList sz vs.toArray) :
  ∀ (mean : ExcName → Option Value) (mg mb : Str → Option Value) (cn : Str) (cs : Scope) (a : Addr) (ccd : Value) (base h₀ : Heap) (L : Addr) (m : Str → Option Value) (Q E : Value → Shared → Prop),
    Below callerA base [] h₀ → Fr h₀ L s.heap m → (hd.heap_39 w.params).In h₀ → News h₀ L s.heap [] → Top topProg LT mean mg mb h₀ → cs.kind = .function →
    (∀ v h' tk', InElt s.heap h' → DrawR s.heap ds v h' → Q v { s with heap := h', toks := tk' }) →
      wpAny (model PG w) (callerA.deeper (envOf cn cs L a ccd)) (call (.ref 172) [.str text t1, .ref sz, .int st t2, .int pc t3]) Q E s := by
  have _mark : PySem.Challenge.rw_wo0022_01 = PySem.Challenge.rw_wo0022_01 ∧ hd.heap_39 = hd.heap_39 := ⟨rfl, rfl⟩
  revert _mark
  k_fill
  intro _
  intro mean mg mb cn cs a ccd base h₀ L m Q E B F X N T hk hret
  refine wpAny_call ?_
  k_dflt (refine' code_defG ?k1 ?k2 ?k3 ?k4 ?k5 ?kA ?kF ?kK ?k6 ?k7 ?k8 ?k9 ?kB ?_ ?c2 ?c3 ?c4 ?c5; (case kA => exact rfl); (case kF => exact rfl); (case kK => assumption); (case k1 => k_asm); (case k2 => k_asm); (case k3 => k_asm); (case k4 => k_asm); (case k5 => k_asm); (case k6 => k_is); (case k7 => k_is); (case k8 => ktr_room); (case k9 => exact BindsTo.of_eq rfl); (case c5 => decide); (case kB => exact locs rfl); (case c2 => exact rfl); (case c3 => exact rfl); (case c4 => exact rfl); k_whole; intro g' L' h' FG' F' N' B' X' T' GS'; (try dsimp only); (try k_fold))
  have F2 : Fr g' L' h' (fun y => List.lookup y [(Str.ofString "pace", Value.int pc t3), (Str.ofString "start", Value.int st t2), (Str.ofString "sizes", Value.ref sz), (Str.ofString "text", Value.str text t1)]) := F'
  clear F'
  have hsg : g'.IsList sz vs.toArray := hsz.at fun o e => GS' _ _ e (fun q => nomatch q)
  k_steps
  refine Stop.mk ?_
  rename Fr _ _ _ _ => F1
  rename News _ _ _ _ => N1
  rename_i dr hx1 hx2 hx3 D ws hx4 hIw hCw l1w
  refine for_list (vs := _) rfl ⟨_, (N1 _ List.mem_cons_self).1, rfl, _, rfl⟩ (DrInv F1 N1 s st pc sizes ds) ?h0 ?turnL ?doneL
  case h0 =>
    refine ⟨_, _, _, text, t1, [], 0, [], sizes, ds, [], rfl, F1.push _, fun p hp => ⟨Heap.get?_push_of_some _ (N1 p hp).1, (N1 p hp).2⟩, .nil, rfl, hH, by simp, by simp, rfl, rfl, fun _ _ => rfl⟩
  case turnL =>
    intro i hi s' h₁ tk₁ hJ hit hls hkk
    obtain ⟨h2, tk2, m2, tx, tt, dv, nn, pre, ks, ds1, ds2, rfl, F2, N2, hdv, hd2, hHi, hds, hsz', hpre, hm1, hm2⟩ := hJ
    have hlt0 : ∀ p ∈ [(D, W.listOf ws.toArray 0), (dr, W.listOf dv.toArray nn)], p.1 < hx4.objs.size := fun p hp => by
      simp only [List.mem_cons, List.not_mem_nil, or_false] at hp
      rcases hp with rfl | rfl
      · exact Heap.lt_size (N1 (D, _) List.mem_cons_self).1
      · exact Heap.lt_size (N1 (dr, _) (List.mem_cons_of_mem _ List.mem_cons_self)).1
    have q9 := fr_iter2 F1 hlt0 F2 N2 hkk hit
    obtain ⟨F3, oI, N3, hit'⟩ := q9
    have F4 := fr_known1 F3 hm1 hm2
    have hne : ks ≠ [] := fun e => by
      have h1 := congrArg List.length hsz'
      have h2 := hIw.length
      simp only [List.size_toArray] at hi
      rw [e] at h1; simp only [List.reverse_nil, List.append_nil] at h1
      omega
    have q8 := Hist.inv hHi hne
    obtain ⟨T0, ks0, ds0, k, x, q6, q7, hH0, hk0, hk1, hx0, hx1', hT⟩ := q8
    subst q6 q7
    have hik : sizes.reverse[i]? = some k := by
      rw [hsz', List.getElem?_append_right (by omega), hpre]; simp
    obtain ⟨tk9, hv⟩ := hIw.get i k hik
    have he : ws.toArray[i] = Value.int k tk9 := by
      have h9 : ws.toArray[i]? = some (Value.int k tk9) := by simpa using hv
      rw [Array.getElem?_eq_getElem hi] at h9; exact Option.some.inj h9
    rw [he]
    have hlen := hHi.len
    clear F2 F3 N2 hkk hls hit
    have hl9 : dr < D ∧ D < hx4.objs.size ∧ dr < hx4.objs.size := ⟨l1w, hlt0 (D, _) List.mem_cons_self, hlt0 (dr, _) (List.mem_cons_of_mem _ List.mem_cons_self)⟩
    have hksl : (ks0 ++ [k]).length ≤ sizes.length := by
      have h1 := congrArg List.length hsz'
      simp only [List.length_reverse, List.length_append] at h1 ⊢; omega
    have hdl : dv.length ≤ 14 := by have := hdv.length; have := hIw.length; simp only [List.size_toArray] at hi; rw [hCw] at *; omega
    have hlx : tx.length ≤ 14 := by have := hlen.1; rw [len_C] at this; omega
    have hkx : k ≤ tx.length := by rw [len_C] at hk1; exact hk1
    k_steps
    refine Stop.mk ?_
    have hYC : C (tx ++ Txt.slice tx (some (tx.length - k)) none) = T0 ++ [97 + x.toNat] := by
      rw [C_append, C_from (by omega), hT, len_C]
      congr 2; omega
    refine SBL.add (hsz := ?hz) ?_
    case hz => rw [from_len (by omega), sizeLine_eq]; omega
    intro t9 k9 _
    generalize tx ++ Txt.slice tx (some (tx.length - k)) none = Y at *
    have hYl : Y.length = T0.length + 1 := by rw [← len_C, hYC]; simp
    have hT0l : T0.length ≤ 14 := by have := hH0.len.1; simp only [List.length_append, List.length_singleton] at hksl; omega
    k_steps
    refine Stop.mk ?_
    rw [item_last hYC]
    refine index_or rfl (fun h => ?_) (fun _ _ => ?_)
    · exfalso; rw [find_letter ⟨hx0, hx1'⟩] at h; omega
    rw [find_letter ⟨hx0, hx1'⟩]
    k_steps
    refine Stop.mk ?_
    rename Fr _ _ _ _ => F5
    rename News _ _ _ _ => N5
    refine append_K (hsz := ?hz2) F5 N5 (.tail (Nat.ne_of_gt hl9.2.2) (.tail (Nat.ne_of_gt hl9.1) (.head fun _ q => nomatch q))) fun h6 F6 N6 => ?_
    case hz2 => rw [sizeLine_eq]; simp only [List.size_toArray]; omega
    clear N5 F5
    generalize hvv : (Value.int ((x - st - pc * ((Y.length : Int) - 1) - 1).fmod 5) _) = vv at N6 ⊢
    k_steps
    · rename Fr _ _ _ _ => F7
      rename News _ _ _ _ => N7
      refine ⟨_, _, _, _, _, dv ++ [vv], nn + 1, pre ++ [k], ks0, ds0, ds2 ++ [(x - st - pc * (T0.length : Int) - 1).fmod 5], rfl, F7, fun p hp => ?_, ?_, ?_, ?_, ?_, ?_, ?_, rfl, ?_⟩
      · simp only [List.mem_cons, List.not_mem_nil, or_false] at hp
        rcases hp with rfl | rfl
        · exact N7 _ (List.mem_cons_of_mem _ List.mem_cons_self)
        · have := N7 _ (List.mem_cons_of_mem _ (List.mem_cons_of_mem _ List.mem_cons_self))
          simpa using this
      · have e9 : ((Y.length : Int) - 1) = (T0.length : Int) := by omega
        rw [← hvv, e9]
        exact hdv.append (.cons _ _ .nil)
      · simp [hd2]
      · have e9 : ((Y.length : Int) - 1) = (T0.length : Int) := by omega
        rw [e9, C_to (by omega), hYC]
        simpa using hH0
      · rw [hds]; simp
      · rw [hsz']; simp
      · simp [hpre]
      · intro z hz
        simp only [List.mem_cons, List.not_mem_nil, or_false, not_or] at hz
        rw [if_neg hz.1, if_neg hz.2.2, if_neg hz.1, if_neg hz.2.1, if_neg hz.1, if_neg (by simp [hz])]
    · rename News _ _ _ _ => N7
      exact hit' _ (N7 _ List.mem_cons_self).1
    · rename News _ _ _ _ => N7
      exact ⟨_, (N7 _ (List.mem_cons_of_mem _ List.mem_cons_self)).1, rfl, _, rfl⟩
  case doneL =>
    intro s' h₁ tk₁ hJ hkk
    obtain ⟨h2, tk2, m2, tx, tt, dv, nn, pre, ks, ds1, ds2, rfl, F2, N2, hdv, hd2, hHi, hds, hsz', hpre, hm1, hm2⟩ := hJ
    have hlt0 : ∀ p ∈ [(D, W.listOf ws.toArray 0), (dr, W.listOf dv.toArray nn)], p.1 < hx4.objs.size := fun p hp => by
      simp only [List.mem_cons, List.not_mem_nil, or_false] at hp
      rcases hp with rfl | rfl
      · exact Heap.lt_size (N1 (D, _) List.mem_cons_self).1
      · exact Heap.lt_size (N1 (dr, _) (List.mem_cons_of_mem _ List.mem_cons_self)).1
    have q9 := fr_done2 F1 hlt0 F2 N2 hkk
    obtain ⟨F3, N3⟩ := q9
    have F4 := fr_known1 F3 hm1 hm2
    clear F2 F3 N2 hkk 
    have hdl : ds2.length ≤ 14 ∧ dv.length ≤ 14 := by have := hdv.length; have := hIw.length; simp only [List.size_toArray] at hd2; omega
    k_steps
    rename Fr g' _ _ _ => F7
    rename News g' _ _ _ => N7
    refine hret _ _ _ (pure_end GS' F7) ?_
    have hks : ks = [] := by
      have h1 := congrArg List.length hsz'
      have h2 := hIw.length
      simp only [List.size_toArray] at hpre
      simp only [List.length_append, List.length_reverse] at h1 h2
      exact List.length_eq_zero_iff.mp (by omega)
    subst hks
    have htx : tx = Str.ofString "" := str_ext (List.length_eq_zero_iff.mp (by have := hHi.len; simp only [List.length_nil] at this; omega))
    have hd0 : ds1 = [] := List.length_eq_zero_iff.mp (by have := hHi.len; simp only [List.length_nil] at this; omega)
    subst htx hd0
    rw [hds]
    rename IntsAre _ ds2.reverse => hI9
    exact ⟨_, _, _, _, rfl, fresh_in GS' N7 List.mem_cons_self, fresh_in GS' N7 (List.mem_cons_of_mem _ List.mem_cons_self), (N7 _ List.mem_cons_self).1, (N7 _ (List.mem_cons_of_mem _ List.mem_cons_self)).1, by simpa using hI9⟩
end
end

section
open PySem PySem.W PyProof.Rows PySem.Calls
theorem fdiv2 (n : Nat) : ((n : Int)).fdiv 2 = ((n / 2 : Nat) : Int) := by rw [Int.fdiv_eq_ediv_of_nonneg _ (by decide)]; omega
def sqEnd (text : Str) (k : Int) : Bool := Txt.slice text (some (text.length - k)) none == Txt.slice text (some (text.length - 2 * k)) (some (text.length - k))
theorem sqEnd_ne {text : Str} {k : Int} {X Y : Str} (hX : Txt.slice text (some (text.length - k)) none = X) (hY : Txt.slice text (some (text.length - 2 * k)) (some (text.length - k)) = Y) (h : X ≠ Y) : sqEnd text k = false := by
  unfold sqEnd; rw [hX, hY]; exact beq_eq_false_iff_ne.mpr h
theorem sqEnd_eq {text : Str} {k : Int} {X Y : Str} (hX : Txt.slice text (some (text.length - k)) none = X) (hY : Txt.slice text (some (text.length - 2 * k)) (some (text.length - k)) = Y) (h : X = Y) : sqEnd text k = true := by
  unfold sqEnd; rw [hX, hY, h]; simp
def twiceI (text : Str) : Int := ((rangeKs 1 (text.length / 2)).find? fun k => sqEnd text k).getD 0

theorem twice_none {text : Str} (h : ∀ k ∈ rangeKs 1 (text.length / 2), sqEnd text k = false) : twiceI text = 0 := by
  unfold twiceI
  rw [List.find?_eq_none.mpr (fun k hk => by rw [h k hk]; simp)]; rfl
theorem twice_found {text : Str} {pre : List Int} {k : Int} (hpre : pre = rangeKs 1 pre.length) (hk : k = 1 + (pre.length : Int)) (hlt : pre.length < text.length / 2) (h : ∀ k ∈ pre, sqEnd text k = false) (hs : sqEnd text k = true) : twiceI text = k := by
  unfold twiceI
  have e : rangeKs 1 (text.length / 2) = pre ++ k :: (rangeKs 1 (text.length / 2)).drop (pre.length + 1) := by
    have h1 : (rangeKs 1 (text.length / 2)).take (pre.length + 1) = pre ++ [k] := by
      have : (rangeKs 1 (text.length / 2)).take (pre.length + 1) = rangeKs 1 (pre.length + 1) := by
        simp only [rangeKs, ← List.map_take, List.take_range]
        rw [Nat.min_eq_left (by omega)]
      rw [this, rangeKs_succ, ← hpre, hk]
    calc rangeKs 1 (text.length / 2) = (rangeKs 1 (text.length / 2)).take (pre.length + 1) ++ (rangeKs 1 (text.length / 2)).drop (pre.length + 1) := (List.take_append_drop _ _).symm
      _ = _ := by rw [h1, List.append_assoc]; rfl
  rw [e, List.find?_append, List.find?_eq_none.mpr (fun k hk => by rw [h k hk]; simp)]
  simp [hs]
abbrev tupObj (vs : List Value) : Obj := { cls := .type "tuple", data := .seq vs.toArray }
inductive Tups : List Value → List (Addr × Obj) → Prop
  | nil : Tups [] []
  | snoc {ys ts a t t'} : Tups ys ts → Tups (ys ++ [.ref a]) ((a, tupObj [.int (ys.length : Int) t, .int 1 t']) :: ts)
theorem Tups.get {ys ts} (h : Tups ys ts) : ∀ i (hi : i < ys.length), ∃ a t t', ys[i] = .ref a ∧ (a, tupObj [.int (i : Int) t, .int 1 t']) ∈ ts := by
  induction h with
  | nil => intro i hi; exact absurd hi (Nat.not_lt_zero _)
  | snoc h ih =>
    rename_i ys ts a t t'
    intro i hi
    rw [List.length_append, List.length_singleton] at hi
    by_cases q : i < ys.length
    · obtain ⟨a', u, u', e, hm⟩ := ih i q
      exact ⟨a', u, u', by rw [List.getElem_append_left q]; exact e, List.mem_cons_of_mem _ hm⟩
    · obtain rfl : i = ys.length := by omega
      exact ⟨a, t, t', by simp, List.mem_cons_self ..⟩

theorem twice_next {text : Str} {pre : List Int} {k : Int} (hp : pre = rangeKs 1 pre.length ∧ ∀ k ∈ pre, sqEnd text k = false) (hk : k = 1 + (pre.length : Int)) (h : sqEnd text k = false) : pre ++ [k] = rangeKs 1 (pre ++ [k]).length ∧ ∀ j ∈ pre ++ [k], sqEnd text j = false := by
  refine ⟨?_, fun j hj => ?_⟩
  · rw [List.length_append, List.length_singleton, rangeKs_succ, ← hp.1, hk]
  · rcases List.mem_append.mp hj with q | q
    · exact hp.2 j q
    · rw [List.mem_singleton.mp q]; exact h
theorem twice_map {v1 v2 : Option Value} {u m0 : Str → Option Value} (ps : List (Str × Value)) : ∀ z, z ≠ Str.ofString "size" → (∀ p ∈ ([] : List (Str × Value)), z ≠ p.1) → ([Str.ofString "alike"] : List Str).contains z = false →
    (if z = Str.ofString "alike" then v1 else if z = Str.ofString "size" then v2 else kstB (fun z => if ([Str.ofString "alike"] : List Str).contains z = true then u z else m0 z) [] z) = m0 z := by
  intro z h1 _ h2
  have h3 : z ≠ Str.ofString "alike" := fun e => by subst e; simp at h2
  rw [if_neg h3, if_neg h1]
  dsimp only [kstB]
  rw [if_neg (by rw [h2]; exact Bool.false_ne_true)]

def CmpInv {g h : Heap} {L : Addr} {m : Str → Option Value} {led : List (Addr × Obj)} (_ : Fr g L h m) (_ : News g L h led) (s : Shared) (X Y : Str) (i : Nat) (s' : Shared) : Prop :=
  ∃ h' tk m', s' = { s with heap := h', toks := tk } ∧ Fr g L h' m' ∧ News g L h' led ∧ (∀ z, z ∉ ([Str.ofString "index", Str.ofString "direction", Str.ofString "l", Str.ofString "r"] : List Str) → m' z = m z) ∧ ∀ j, j < i → X.cps[j]? = Y.cps[j]?

section
variable {prog : Program} {w : World} {A : Around} {s : Shared} {h₀ : Heap} {L : Addr} {m : Str → Option Value} {env : Env} {cl : List (Str × Addr)}
theorem tup_rest {p1 p2 p3 : Pos} {more : List (Str × Const)} {n : Nat} {Fin : List Value → List (Addr × Obj) → Prop} {own : List (Addr × Obj)}
    (fin : ∀ ys ts, ys.length = n → Tups ys ts → Fin ys (ts ++ own)) :
    LCg.CompRest prog w A h₀ L m env (.Tuple [.Name (Str.ofString "spot") p1, .Constant (.int 1) 0 p2] 0 p3) (Str.ofString "spot")
      { kind := .function, names := [(Str.ofString ".0", .local), (Str.ofString "spot", .local)], isGenerator := false, isCoroutine := false, more := more } cl s (fun _ => True) (fun i v => ∃ t, v = .int (0 + (i : Int)) t) Fin n 0 [] own := by
  have key : ∀ (j i : Nat) (ys : List Value) (ts : List (Addr × Obj)), i + j = n → ys.length = i → Tups ys ts → LCg.CompRest prog w A h₀ L m env (.Tuple [.Name (Str.ofString "spot") p1, .Constant (.int 1) 0 p2] 0 p3) (Str.ofString "spot")
      { kind := .function, names := [(Str.ofString ".0", .local), (Str.ofString "spot", .local)], isGenerator := false, isCoroutine := false, more := more } cl s (fun _ => True) (fun i v => ∃ t, v = .int (0 + (i : Int)) t) Fin j i ys (ts ++ own) := by
    intro j
    induction j with
    | zero =>
      intro i ys ts hi hl ht
      exact LCg.CompRest.zero (fin ys ts (by omega) ht)
    | succ j ih =>
      intro i ys ts hi hl ht
      refine LCg.CompRest.succ ?_
      intro v I oI C oC D m₂ h tk E' hv hC hx F N off ne
      obtain ⟨t, rfl⟩ := hv
      refine Tuple_ ?_
      refine spliced_cons (LCgL.ld_own (s := { s with heap := h, toks := tk }) N (List.mem_cons_of_mem _ List.mem_cons_self) hC hx ?_)
      refine spliced_cons (wpAny_Constant_int (k := 0) (pos := p2) ?_)
      refine spliced_nil ?_
      refine newTuple_N (s := { s with heap := h, toks := tk + 1 }) F N ?_
      intro h' F' N'
      have hlt : ∀ p ∈ (I, oI) :: (C, oC) :: (D, LCg.lst ys) :: (ts ++ own), p.1 < h.objs.size := fun p hp => Heap.lt_size (N p hp).1
      refine LCg.CompEnd.intro F' N' ((h.objs.size, tupObj [.int (0 + (i : Int)) t, .int 1 tk]) :: (ts ++ own)) ?_ ?_ trivial ?_
      · intro p hp
        simp only [List.mem_cons, List.mem_append] at hp ⊢
        rcases hp with rfl | rfl | rfl | rfl | hp
        · exact .inr (.inl rfl)
        · exact .inr (.inr (.inl rfl))
        · exact .inr (.inr (.inr (.inl rfl)))
        · exact .inl rfl
        · exact .inr (.inr (.inr (.inr hp)))
      · refine ⟨⟨?_, ?_, ?_⟩, off⟩
        · exact Ne.symm (Nat.ne_of_lt (hlt (I, oI) (by simp)))
        · exact Ne.symm (Nat.ne_of_lt (hlt (C, oC) (by simp)))
        · exact Ne.symm (Nat.ne_of_lt (hlt (D, LCg.lst ys) (by simp)))
      · have e : (0 + (i : Int)) = (ys.length : Int) := by rw [hl]; omega
        rw [e]
        exact ih (i + 1) _ (_ :: ts) (by omega) (by rw [List.length_append, List.length_singleton, hl]) (Tups.snoc ht)
  exact key n 0 [] [] (by omega) rfl .nil
end

section
local macro_rules | `(tactic| walk_at "pyIter ref") => `(tactic| refine stop_here ?_)
local macro_rules | `(tactic| walk_at "CompSrc") => `(tactic| refine stop_here ?_)
local macro_rules | `(tactic| walk_at "exec For Tuple Attribute cons nil") => `(tactic| (refine wpAny_For ?_ (by intro _; rfl)))
theorem twice_c (w : World) (text : Str) (tk : Tok) (hlen : text.length ≤ 1000) :
    PureC w 158 [.str text tk] (fun v _ => ∃ t, v = .int (twiceI text) t) := by
  have _mark : PySem.Challenge.rw_wo0022_01 = PySem.Challenge.rw_wo0022_01 ∧ hd.heap_39 = hd.heap_39 := ⟨rfl, rfl⟩
  revert _mark
  k_fill
  intro _
  dsimp only [PureC]
  intro mean mg mb cn cs a ccd base h₀ L m s Q E B F X N T hk hret
  refine wpAny_call ?_
  k_dflt (refine' code_defG ?k1 ?k2 ?k3 ?k4 ?k5 ?kA ?kF ?kK ?k6 ?k7 ?k8 ?k9 ?kB ?_ ?c2 ?c3 ?c4 ?c5; (case kA => exact rfl); (case kF => exact rfl); (case kK => assumption); (case k1 => k_asm); (case k2 => k_asm); (case k3 => k_asm); (case k4 => k_asm); (case k5 => k_asm); (case k6 => k_is); (case k7 => k_is); (case k8 => ktr_room); (case k9 => exact BindsTo.of_eq rfl); (case c5 => decide); (case kB => exact locs rfl); (case c2 => exact rfl); (case c3 => exact rfl); (case c4 => exact rfl); k_whole; intro g' L' h' FG' F' N' B' X' T' GS'; (try dsimp only); (try k_fold))
  have F2 : Fr g' L' h' (fun y => List.lookup y [(Str.ofString "text", Value.str text tk)]) := F'
  clear F'
  k_steps
  refine Stop.mk ?_
  rename Fr _ _ _ _ => F1
  rename News _ _ _ _ => N1
  refine kst_range (n := text.length / 2) (σ := Unit) (fun _ => []) (fun _ => []) (fun _ => True) [Str.ofString "alike"] (fun pre _ => pre = rangeKs 1 pre.length ∧ ∀ k ∈ pre, sqEnd text k = false) () rfl (by assumption) ?small ?size F1 (fun _ h => nomatch h) trivial (fun _ h => nomatch h) ⟨rfl, fun _ h => nomatch h⟩ ?turn ?done
  case small => exact small_one (by decide) (by decide) (by rw [fdiv2]; omega) (by rw [fdiv2]; omega)
  case size => rw [rangeSize_one, fdiv2]; split <;> omega
  case turn =>
    intro c pre k t u h tk own hk hlt hoff _ hp F' N'
    have hk2 : 1 ≤ k ∧ 2 * k ≤ text.length := by omega
    k_steps
    · refine Stop.mk ?_
      rename Fr _ _ _ _ => F1
      rename News _ _ _ _ => N1
      refine LCg.CompSrc.range (n := k.toNat) (news := own) rfl F1 (fun p hp => N1 p (by simpa using hp)) (by assumption) ?smallc ?sizec ?szc ?_
      case smallc => exact small_one (by decide) (by decide) (by omega) (by omega)
      case sizec => rw [rangeSize_one]; split <;> omega
      case szc => rw [sizeLine_eq]; omega
      intro g'
      refine tup_rest ?_
      intro ys ts hys hts
      have hX : (Txt.slice text (some (text.length - k)) none).length = k.toNat := by rw [from_len (by omega)]; omega
      have hY : (Txt.slice text (some (text.length - 2 * k)) (some (text.length - k))).length = k.toNat := by rw [slice_len (by omega)]; omega
      k_steps
      refine Stop.mk ?_
      rename Fr _ _ _ _ => F1
      rename News _ _ _ _ => N1
      revert F1
      generalize hXe : Txt.slice text (some (text.length - k)) none = X9 at *
      generalize hYe : Txt.slice text (some (text.length - 2 * k)) (some (text.length - k)) = Y9 at *
      intro F1
      refine for_list (vs := ys.toArray) rfl ⟨_, (N1 _ (List.mem_cons_of_mem _ (List.mem_cons_of_mem _ List.mem_cons_self))).1, rfl, _, rfl⟩ (CmpInv F1 N1 s X9 Y9) ?h0 ?turnL ?doneL
      case h0 =>
        exact ⟨_, _, _, rfl, F1.push _, fun p hp => ⟨Heap.get?_push_of_some _ (N1 p hp).1, (N1 p hp).2⟩, fun _ _ => rfl, fun j hj => absurd hj (Nat.not_lt_zero _)⟩
      case turnL =>
        intro i hi s' h₁ tk₁ hJ hit hls hkk
        obtain ⟨h2, tk2, m2, rfl, F2, N2, hm2, hj⟩ := hJ
        obtain ⟨F3, oI, N3, hit'⟩ := fr_iter F1 N1 F2 N2 hkk hit
        have hi' : i < ys.length := by simpa using hi
        obtain ⟨ta, t1, t2, he, hmem⟩ := hts.get i hi'
        have he' : ys.toArray[i] = Value.ref ta := by simpa using he
        rw [he']
        have N4 := news_in N3 (p := (ta, tupObj [.int (i : Int) t1, .int 1 t2])) (by simp [hmem]) N3
        refine wpAny_assign_Tuple rfl ⟨_, (N4 _ List.mem_cons_self).1, rfl, _, rfl⟩ rfl rfl ?_
        intro h3 hx3
        have old3 : ∀ b o, h₁.get? b = some o → h3.get? b = some o := fun b o e => hx3 b o (Nat.ne_of_lt (Heap.lt_size e)) e
        have F5 := fr_known (F3.keeps old3) hm2
        have N5 := N4.grown old3
        clear N4 F3 N3 hx3 old3 hls hkk F2 N2 hit
        k_steps
        · exact kst_end () (by assumption) (by assumption) (fun _ h => nomatch h) (fun p hp => by simp [hp]) rfl trivial (fun _ h => nomatch h) (twice_map []) (twice_next hp hk (sqEnd_ne hXe hYe (ne_of_lt (by assumption))))
        · exact kst_end () (by assumption) (by assumption) (fun _ h => nomatch h) (fun p hp => by simp [hp]) rfl trivial (fun _ h => nomatch h) (twice_map []) (twice_next hp hk (sqEnd_ne hXe hYe (Ne.symm (ne_of_lt (by assumption)))))
        · rename Fr _ _ _ _ => F9
          rename News _ _ _ _ => N9
          refine ⟨_, _, _, rfl, F9, fun p hp => N9 p (List.mem_cons_of_mem _ (List.mem_cons_of_mem _ hp)), ?_, ?_⟩
          · intro z hz
            simp only [List.mem_cons, List.not_mem_nil, or_false, not_or] at hz
            obtain ⟨z1, z2, z3, z4⟩ := hz
            dsimp only
            rw [if_neg z4, if_neg z3, if_neg z2, if_neg z1, if_neg (by simp [z1, z2, z3, z4])]
          · intro j hj'
            by_cases q : j < i
            · exact hj j q
            · obtain rfl : j = i := by omega
              exact item_same (by omega) (by omega) (by assumption) (by assumption)
        · rename News _ _ _ _ => N9
          exact hit' _ (N9 _ (List.mem_cons_of_mem _ List.mem_cons_self)).1
        · rename News _ _ _ _ => N9
          exact ⟨_, (N9 (_, LCg.lst ys) (by simp)).1, rfl, _, rfl⟩
      case doneL =>
        intro s' h₁ tk₁ hJ hkk
        obtain ⟨h2, tk2, m2, rfl, F2, N2, hm2, hj⟩ := hJ
        obtain ⟨F3, N3⟩ := fr_done F1 N1 F2 N2 hkk
        k_steps
        refine hret _ _ _ (pure_end GS' (by assumption)) ?_
        rw [twice_found hp.1 hk hlt hp.2 (sqEnd_eq hXe hYe (eq_of_cells hX hY (fun j hj' => hj j (by simp only [List.size_toArray]; omega))))]
        exact ⟨_, rfl⟩
  case done => 
    intro c u h tk _ hp F' N'
    dsimp only
    k_steps
    refine hret _ _ _ (pure_end GS' (by assumption)) ?_
    rw [twice_none hp.2]
    exact ⟨_, rfl⟩
end
end

section
open PySem PySem.W PyProof.Rows PySem.Calls
def noSq (text : Str) (k j : Int) : Bool := !(Txt.slice text (some j) (some (j + k)) == Txt.slice text (some (j + k)) (some (j + 2 * k)))
def plainB (text : Str) : Bool := (rangeKs 1 (text.length / 2)).all fun k => (rangeKs 0 (text.length - 2 * k.toNat + 1)).all fun j => noSq text k j
theorem plainB_true {text : Str} (h : ∀ k ∈ rangeKs 1 (text.length / 2), ∀ j ∈ rangeKs 0 (text.length - 2 * k.toNat + 1), noSq text k j = true) : Value.bool true = Value.bool (plainB text) := by
  have : plainB text = true := List.all_eq_true.mpr fun k hk => List.all_eq_true.mpr fun j hj => h k hk j hj
  rw [this]
theorem mem_rangeKs' {a k : Int} {n i : Nat} (hk : k = a + (i : Int)) (h : i < n) : k ∈ rangeKs a n := List.mem_map.mpr ⟨i, List.mem_range.mpr h, hk.symm⟩
theorem plainB_false {text : Str} {k j : Int} (hk : k ∈ rangeKs 1 (text.length / 2)) (hj : j ∈ rangeKs 0 (text.length - 2 * k.toNat + 1)) (h : noSq text k j = false) : Value.bool false = Value.bool (plainB text) := by
  have : plainB text = false := by
    cases q : plainB text with
    | false => rfl
    | true =>
      have := List.all_eq_true.mp (List.all_eq_true.mp q k hk) j hj
      rw [this] at h; cases h
  rw [this]
theorem noSq_of {text : Str} {k j : Int} {b : Bool} (h : (Txt.slice text (some j) (some (j + k)) == Txt.slice text (some (j + k)) (some (j + 2 * k))) = b) : noSq text k j = !b := by
  unfold noSq; rw [h]


section
local macro_rules | `(tactic| walk_at "pyIter ref") => `(tactic| refine stop_here ?_)
theorem plain_c (w : World) (text : Str) (tk : Tok) (hlen : text.length ≤ 1000) :
    PureC w 165 [.str text tk] (fun v _ => v = .bool (plainB text)) := by
  have _mark : PySem.Challenge.rw_wo0022_01 = PySem.Challenge.rw_wo0022_01 ∧ hd.heap_39 = hd.heap_39 := ⟨rfl, rfl⟩
  revert _mark
  k_fill
  intro _
  dsimp only [PureC]
  intro mean mg mb cn cs a ccd base h₀ L m s Q E B F X N T hk hret
  refine wpAny_call ?_
  k_dflt (refine' code_defG ?k1 ?k2 ?k3 ?k4 ?k5 ?kA ?kF ?kK ?k6 ?k7 ?k8 ?k9 ?kB ?_ ?c2 ?c3 ?c4 ?c5; (case kA => exact rfl); (case kF => exact rfl); (case kK => assumption); (case k1 => k_asm); (case k2 => k_asm); (case k3 => k_asm); (case k4 => k_asm); (case k5 => k_asm); (case k6 => k_is); (case k7 => k_is); (case k8 => ktr_room); (case k9 => exact BindsTo.of_eq rfl); (case c5 => decide); (case kB => exact locs rfl); (case c2 => exact rfl); (case c3 => exact rfl); (case c4 => exact rfl); k_whole; intro g' L' h' FG' F' N' B' X' T' GS'; (try dsimp only); (try k_fold))
  have F2 : Fr g' L' h' (fun y => List.lookup y [(Str.ofString "text", Value.str text tk)]) := F'
  clear F'
  k_steps
  refine Stop.mk ?_
  rename Fr _ _ _ _ => F1
  rename News _ _ _ _ => N1
  refine kst_range (n := text.length / 2) (σ := Unit) (fun _ => []) (fun _ => []) (fun _ => True) [Str.ofString "spot"] (fun pre _ => ∀ k ∈ pre, ∀ j ∈ rangeKs 0 (text.length - 2 * k.toNat + 1), noSq text k j = true) () rfl (by assumption) ?small ?size F1 (fun _ h => nomatch h) trivial (fun _ h => nomatch h) (fun _ h => nomatch h) ?turn ?done
  case small => exact small_one (by decide) (by decide) (by rw [fdiv2]; omega) (by rw [fdiv2]; omega)
  case size => rw [rangeSize_one, fdiv2]; split <;> omega
  case turn =>
    intro c pre k t u h tk own hk hlt hoff _ hp F' N'
    have hk2 : 1 ≤ k ∧ 2 * k ≤ text.length := by omega
    k_steps
    refine Stop.mk ?_
    rename Fr _ _ _ _ => F1
    rename News _ _ _ _ => N1
    refine kst_range (n := text.length - 2 * k.toNat + 1) (σ := Unit) (fun _ => own) (fun _ => []) (fun _ => True) [] (fun pre _ => ∀ j ∈ pre, noSq text k j = true) () rfl (by assumption) ?small2 ?size2 F1 N1 trivial (fun _ h => nomatch h) (fun _ h => nomatch h) ?turn2 ?done2
    case small2 => exact small_one (by decide) (by decide) (by omega) (by omega)
    case size2 => rw [rangeSize_one]; split <;> omega
    case turn2 =>
      intro c pre2 j t2 u2 h2 tk2 own2 hj hlt2 hoff2 _ hp2 F' N'
      k_steps
      · refine hret _ _ _ (pure_end GS' (by assumption)) (plainB_false (mem_rangeKs' hk hlt) (mem_rangeKs' hj hlt2) (noSq_of (by assumption)))
      · refine kst_end () (by assumption) (by assumption) (fun p hp => List.mem_append_left _ hp) (fun p hp => List.mem_append_right _ hp) rfl trivial (fun _ h => nomatch h) ?_ ?_
        · intro z hz _ _
          show (if z = _ then _ else _) = _
          rw [if_neg hz]; rfl
        · intro j' hj'
          rcases List.mem_append.mp hj' with q | q
          · exact hp2 j' q
          · rw [List.mem_singleton.mp q]; exact noSq_of (by assumption)
    case done2 =>
      intro c u2 h2 tk2 _ hp2 F' N'
      dsimp only
      k_steps
      refine kst_end () (by assumption) (by assumption) (fun _ h => nomatch h) (fun p hp => hp) rfl trivial (fun _ h => nomatch h) ?_ ?_
      · intro z hz _ hz2
        have hz3 : z ≠ Str.ofString "spot" := fun e => by subst e; cases hz2
        dsimp only [kstB]
        rw [if_neg hz3, if_neg (by simp), if_neg hz, if_neg (by rw [hz2]; exact Bool.false_ne_true)]
      · intro k' hk'
        rcases List.mem_append.mp hk' with q | q
        · exact hp k' q
        · rw [List.mem_singleton.mp q]; exact hp2
  case done => 
    intro c u h tk _ hp F' N'
    dsimp only
    k_steps
    exact hret _ _ _ (pure_end GS' (by assumption)) (plainB_true hp)
end
end

section
open PySem PySem.W PyProof.Rows PySem.Calls
structure KFacts (K : Frag) : Prop where
  it : findIn K (.ref 100) "__iter__" = some (some (.builtin "list.__iter__"))
  str : findIn K (.ref 100) "__str__" = some (some (.ref 74))
  init : findIn K (.ref 100) "__init__" = some (some (.ref 38))
  push : findIn K (.ref 100) "push" = some (some (.ref 45))
  pop : findIn K (.ref 100) "pop_from" = some (some (.ref 53))
  pc : findIn K (.ref 100) "part_count" = some (some (.ref 97))
  app : findIn K (.ref 100) "append" = some (some (.builtin "list.append"))
  gi : findIn K (.ref 100) "__getitem__" = some (some (.builtin "list.__getitem__"))
  si : findIn K (.ref 100) "__setitem__" = some (some (.builtin "list.__setitem__"))
  ga : findIn K (.ref 100) "__getattribute__" = some (some (.builtin "list.__getattribute__"))
  gat : findIn K (.ref 100) "__getattr__" = some none
  sa : findIn K (.ref 100) "__setattr__" = some (some (.builtin "object.__setattr__"))
  mlist : mroIn K 100 (.type "list") = some true
  mobj : mroIn K 100 (.type "object") = some true
  mself : mroIn K 100 (.ref 100) = some true
  alen : alongIn K "__len__" [.type "list", .type "object"] = some (some (.builtin "list.__len__"))
  ainit : alongIn K "__init__" [.type "list", .type "object"] = some (some (.builtin "list.__init__"))
  t74 : typeIn K (.ref 74) = some (.type "function")
  t38 : typeIn K (.ref 38) = some (.type "function")
  t45 : typeIn K (.ref 45) = some (.type "function")
  t53 : typeIn K (.ref 53) = some (.type "function")
  t97 : typeIn K (.ref 97) = some (.type "function")
  tapp : typeIn K (.builtin "list.append") = some (.type "method_descriptor")
  taker : takerIn K 100 "_initial_size" = some none
  call : specialIn K (.ref 100) "__call__" = some (some (.builtin "type.__call__"))
  inst : instIn K (.ref 100) (.type "type") = some true
  tp : nsIn K cStatics "thirdparty.any" = some none
  sup : nsIn K mainGlobals "super" = some none
  emp : nsIn K mainGlobals "EMPTYSTRING" = some (some (.str "" 196))
  deq : mroIn K 100 (.type "collections.deque") = some false
  ini : findIn K (.ref 100) "_initial_size" = some none
theorem kf0 (w : World) (_mark : PySem.Challenge.rw_wo0022_01 = PySem.Challenge.rw_wo0022_01 ∧ hd.heap_39 = hd.heap_39) : KFacts (hd.heap_39 w.params) := by
  revert _mark
  k_fill
  intro _
  constructor
  all_goals first | k_is | kernel_rfl
theorem kf (w : World) : KFacts (hd.heap_39 w.params) := kf0 w ⟨rfl, rfl⟩
end

section
open PySem PySem.W PyProof.Rows PySem.Calls
abbrev rowO (d : Addr) (its : Array Value) (n : Nat) : Obj := { cls := .ref 100, dict := some d, data := .seq its n }
theorem row_inst {h : Heap} {r d : Addr} {its : Array Value} {n : Nat} {od : Obj} (h1 : h.get? r = some (rowO d its n)) (h2 : h.get? d = some od) : InstAt h r (rowO d its n) 100 (some od) := ⟨h1, rfl, rfl, h2⟩

section
variable {prog : Program} {w : World} {A : Around} {E : Value → Shared → Prop} {s : Shared} {K : Frag} {r : Addr} {ox : Obj} {od : Option Obj}
theorem call_row_slot {id n : String} {b : Builtin} {rest : List Value} {Q : Value → Shared → Prop} (KF : KFacts K) (X : K.In s.heap) (I : InstAt s.heap r ox 100 od) (hp : plainId id = true) (hb : entryFor table id = some b)
    (hk : builtinKind id = some .slot) (hs : splitId id = some ("list", n)) (ha : argsOk id ⟨.ref r :: rest, []⟩)
    (hc : wpAny (model prog w) A.in1 (b ⟨.ref r :: rest, []⟩) (fun fin s' => ∃ v, fin = .done (.ret v) ∧ Q v s') E s) : wpAny (model prog w) A (call (.builtin id) (.ref r :: rest)) Q E s := by
  refine wpAny_call (codeAny_call_builtin hp hb (check_slot hk hs (I.type.andThen (looks_mroIn X KF.mlist)) ha (wpAny_mono hc (fun fin s' h' => ?_) fun _ _ h' => h')))
  obtain ⟨v, rfl, hv⟩ := h'; exact hv
theorem check_method {M : Model} {i owner n : String} {self : Value} {rest : List Value} {kw : List (Str × Value)} {Q : Unit → Shared → Prop}
    (hk : builtinKind i = some .method) (hs : splitId i = some (owner, n)) (hi : Looks M s.heap (isInstance self (.type owner)) true) (ha : argsOk i ⟨self :: rest, kw⟩) (q : Q () s) :
    wpAny M A (checkBuiltinCall i ⟨self :: rest, kw⟩) Q E s := by
  simp only [checkBuiltinCall, hk, hs]
  refine wpAny_bind (hi.here ?_)
  simp only [Bool.not_true, Bool.false_eq_true, if_false]
  cases hsig : Manifest.signature? i with
  | none => exact wpAny_pure q
  | some sig =>
    simp only [argsOk, hsig] at ha
    have h2 : Bind.checkArgs i sig ⟨self :: rest, kw⟩ = pure () := ha
    show wpAny M A (Bind.checkArgs i sig ⟨self :: rest, kw⟩) Q E s
    rw [h2]; exact wpAny_pure q
theorem call_row_append {d : Addr} {its : Array Value} {n : Nat} {od : Obj} {x : Value} {Q : Value → Shared → Prop} (KF : KFacts K) (X : K.In s.heap) (h1 : s.heap.get? r = some (rowO d its n)) (h2 : s.heap.get? d = some od)
    (h : ∀ h', Heap.SameBut r s.heap h' → h'.get? r = some (rowO d (its.push x) (n + 1)) → Q .none { s with heap := h' }) (hsz : its.size ≤ sizeLine) :
    wpAny (model prog w) A (call (.builtin "list.append") [.ref r, x]) Q E s := by
  have I := row_inst h1 h2
  refine wpAny_call (codeAny_call_builtin (by decide +kernel) entry_list_append (check_method (by decide +kernel) (show splitId "list.append" = some ("list", "append") by decide +kernel) (I.type.andThen (looks_mroIn X KF.mlist)) (args_list_append _ _) ?_))
  show wpAny _ _ (updateSeq r (·.push x) >>= fun _ => ret .none) _ _ s
  refine wpAny_bind ?_
  have hm : Obj.mapSeq (·.push x) (rowO d its n) = rowO d (its.push x) (n + 1) := by simp [Obj.mapSeq]
  refine wpAny_updateSeq h1 rfl (wpAny_pure (h _ (Heap.SameBut.update ..) ?_))
  rw [Heap.get?_update_self _ h1 (by rw [hm]; rfl), hm]
end
section
variable {prog : Program} {w : World} {A : Around} {E : Value → Shared → Prop} {s : Shared}
def IsSeq (h : Heap) (l : Addr) (items : Array Value) : Prop := ∃ o n, h.get? l = some o ∧ o.data = .seq items n
theorem IsSeq.at {h h' : Heap} {l : Addr} {items : Array Value} (x : IsSeq h l items) (k : ∀ o, h.get? l = some o → h'.get? l = some o) : IsSeq h' l items :=
  let ⟨o, n, e, d⟩ := x; ⟨o, n, k _ e, d⟩
/-- what the step of a list's iterator does; the list may be of a class of its own -/
theorem rising {it l : Addr} {i : Nat} {items : Array Value} {R : Fin → Shared → Prop} {oi : Obj} (ho : s.heap.get? it = some oi) (hd : oi.data = .fields #[.ref l, .int i 0]) (hl : IsSeq s.heap l items)
    (h : wpAny (model prog w) A (match items[i]? with
      | some x => do setField (.ref it) 1 (rawInt ((i : Int) + 1)); ret x
      | none => do rule "list_iterator.__next__.end"; setField (.ref it) 0 .none; Builtin.SmallTypes.stopIteration) R E s) :
    wpAny (model prog w) A (Builtin.«list_iterator.__next__» ⟨[.ref it], []⟩) R E s := by
  obtain ⟨ol, nl, hol, hdl⟩ := hl
  show wpAny _ _ (field (.ref it) 0 >>= _) _ _ s
  refine wpAny_bind (wpAny_field ho hd (x := .ref l) rfl ?_)
  show wpAny _ _ (field (.ref it) 1 >>= _) _ _ s
  refine wpAny_bind (wpAny_field ho hd (x := .int i 0) rfl ?_)
  show wpAny _ _ (seqItems? (.ref l) >>= _) _ _ s
  refine wpAny_bind (wpAny_seqItems hol hdl ?_)
  simp only [Int.toNat_natCast]
  exact h
theorem next_by {it : Addr} {Q : Option Value → Shared → Prop} (hT : s.TypeIs (.ref it) "list_iterator")
    (h : wpAny (model prog w) A.in1 (Builtin.«list_iterator.__next__» ⟨[.ref it], []⟩) (fun fin s' => ∃ v, fin = .done (.ret v) ∧ Q (some v) s')
      (fun e s' => wpAny (model prog w) A (isInstance e (.type "StopIteration")) (fun b s'' => if b = true then Q none s'' else E e s'') E s') s) : wpAny (model prog w) A (pyNext (.ref it)) Q E s := by
  unfold pyNext
  refine wpAny_bind (wpAny_attempt (wpAny_callSpecial?_slot (name := Str.ofString "__next__") hT slot_listiter_next (wpAny_call_entry slot_listiter_next hT entry_listiter_next (wpAny_mono h (fun fin s' q => ?_) fun e s' q => ?_) (args_listiter_next _))))
  · obtain ⟨v, rfl, q⟩ := q
    exact ⟨v, rfl, wpAny_pure q⟩
  · refine wpAny_bind (wpAny_mono q (fun b s'' q => ?_) fun _ _ q => q)
    cases b
    · exact wpAny_throw q
    · exact wpAny_pure q
theorem next_item {it l : Addr} {i : Nat} {items : Array Value} {x : Value} {Q : Option Value → Shared → Prop} (hit : s.heap.IsListIter it l i)
    (hl : IsSeq s.heap l items) (hx : items[i]? = some x) (hQ : ∀ h', h'.IsListIter it l (i + 1) → Heap.SameBut it s.heap h' → Q (some x) { s with heap := h' }) :
    wpAny (model prog w) A (pyNext (.ref it)) Q E s := by
  obtain ⟨o, ho, hc, hd⟩ := id hit
  refine next_by hit.typeIs (rising ho hd hl ?_)
  rw [hx]
  refine wpAny_bind (wpAny_setField ho hd (by simp) (wpAny_pure ⟨x, rfl, hQ _ ⟨_, Heap.get?_update_self _ ho (Obj.isFreed_of_fields (Obj.data_mapFields hd _)), (Obj.cls_mapFields ..).trans hc, ?_⟩ (Heap.SameBut.update ..)⟩))
  rw [Obj.data_mapFields hd]; simp [rawInt]
theorem next_end {it l : Addr} {i : Nat} {items : Array Value} {Q : Option Value → Shared → Prop} (hh : A.handled = none) (hit : s.heap.IsListIter it l i)
    (hl : IsSeq s.heap l items) (hx : items[i]? = none) (hQ : ∀ h', Heap.ExtBut it s.heap h' → Q none { s with heap := h' }) : wpAny (model prog w) A (pyNext (.ref it)) Q E s := by
  obtain ⟨o, ho, hc, hd⟩ := id hit
  refine next_by hit.typeIs (rising ho hd hl ?_)
  rw [hx]
  refine wpAny_bind (wpAny_rule (wpAny_bind (wpAny_setField ho hd (by simp) ?_)))
  show wpAny _ _ (newExc (.type "StopIteration") [] >>= _) _ _ _
  refine wpAny_bind ?_
  simp only [newExc, newTuple]
  refine wpAny_bind (wpAny_newObj_type ?_ (by size_fits))
  refine wpAny_bind (m := firstArgMember _ _) (wpAny_of_eq (a := Value.none) (by first | rfl | (simp only [firstArgMember]; rfl)) ?_)
  refine wpAny_newObj_type ?_ (by size_fits)
  simp only [raiseNew]
  refine wpAny_bind (wpAny_handled ?_)
  rw [show A.in1.handled = none from hh]
  refine wpAny_bind (wpAny_pure (wpAny_throw ?_))
  refine wpAny_isInstance (T := "StopIteration") (b := true) ⟨_, Heap.get?_push_size _ rfl, rfl⟩ isSubtype_stop ?_
  exact hQ _ (((Heap.SameBut.update ..).extBut.push _).push _)
theorem iter_row {K : Frag} {r : Addr} {ox : Obj} {od : Option Obj} {Q : Value → Shared → Prop} (KF : KFacts K) (X : K.In s.heap) (I : InstAt s.heap r ox 100 od)
    (hQ : Q (.ref s.heap.objs.size) { s with heap := s.heap.push { cls := .type "list_iterator", data := .fields #[.ref r, .int 0 0] } }) : wpAny (model prog w) A (pyIter (.ref r)) Q E s := by
  have L1 := I.type (M := model prog w)
  have L2 := looks_findIn (M := model prog w) X KF.it
  unfold pyIter specialOf
  refine wpAny_bind (wpAny_bind (L1.here (L2.here ?_)))
  have hc : wpAny (model prog w) A (call (.builtin "list.__iter__") [.ref r]) (fun it s' => it = .ref s.heap.objs.size ∧ s' = { s with heap := s.heap.push { cls := .type "list_iterator", data := .fields #[.ref r, .int 0 0] } }) E s := by
    refine call_row_slot KF X I (by decide +kernel) entry_list_iter (by decide +kernel) (n := "__iter__") (by decide +kernel) (args_list_iter _) ?_
    show wpAny _ _ (do ret (← newFields "list_iterator" [.ref r, rawInt 0])) _ _ s
    exact wpAny_bind (wpAny_newObj_type (wpAny_pure ⟨_, rfl, rfl, rfl⟩))
  dsimp only
  have hb := slot_list_iter.bind (.ref r)
  have cs : ∀ refuse : Sem Value, wpAny (model prog w) A (callSpecialIfBoundUnlessNone? (.ref r) "__iter__" refuse) (fun o s' => o = some (.ref s.heap.objs.size) ∧ s' = { s with heap := s.heap.push { cls := .type "list_iterator", data := .fields #[.ref r, .int 0 0] } }) E s := by
    intro refuse
    have fin : wpAny (model prog w) A (if (Value.builtin "list.__iter__" == Value.none) = true then (refuse >>= fun v => pure (some v)) else (call (.builtin "list.__iter__") [.ref r] >>= fun v => pure (some v))) (fun o s' => o = some (.ref s.heap.objs.size) ∧ s' = { s with heap := s.heap.push { cls := .type "list_iterator", data := .fields #[.ref r, .int 0 0] } }) E s := by
      rw [if_neg (by decide)]
      exact wpAny_bind (wpAny_mono hc (fun v s' h' => wpAny_pure ⟨by rw [h'.1], h'.2⟩) fun _ _ h' => h')
    unfold callSpecialIfBoundUnlessNone? bindSpecialIfBound? specialOf
    refine wpAny_holding (wpAny_bind (wpAny_bind (wpAny_bind (L1.here (L2.here ?_)))))
    simp only [hb]
    refine wpAny_bind (wpAny_askSetting (wpAny_ite ?_))
    split
    · exact wpAny_bind (wpAny_pure (wpAny_pure fin))
    · exact wpAny_tryCatch (wpAny_bind (wpAny_pure (wpAny_pure fin)))
  refine wpAny_bind (wpAny_mono (cs _) (fun o s' h' => ?_) fun _ _ h' => h')
  obtain ⟨rfl, rfl⟩ := h'
  exact wpAny_bind (wpAny_specialOf (T := "list_iterator") ⟨_, Heap.get?_push_size _ rfl, rfl⟩ slot_listiter_next.lookup (wpAny_pure hQ))
/-- the walk of a row whose items are tuples -/
theorem walksU_row (hh : A.handled = none) (I ax : Addr) (hne : ax ≠ I) (items : Array Value) (Ts : Nat → Addr) (vals : Nat → Array Value)
    (hit : ∀ j, j < items.size → items[j]? = some (.ref (Ts j))) (hTI : ∀ j, j < items.size → Ts j ≠ I) :
    WalksU prog w A I (I :: ax :: (List.range items.size).map Ts) [I] items.size (fun j v => v = vals j)
      (fun j h => h.IsListIter I ax j ∧ IsSeq h ax items ∧ ∀ k, k < items.size → h.IsTuple (Ts k) (vals k))
      (fun j T h => (j < items.size ∧ T = Ts j) ∧ h.IsListIter I ax (j + 1) ∧ IsSeq h ax items ∧ ∀ k, k < items.size → h.IsTuple (Ts k) (vals k)) := by
  refine ⟨fun b hb => by simp at hb; simp [hb], fun j h h' st hk => ⟨st.1.at fun o e => hk I (by simp) o e, st.2.1.at fun o e => hk ax (by simp) o e, fun k hk' => ?_⟩, fun i s Q E hi st hQ => ?_, ?_, ?_, ?_, ?_⟩
  · exact (st.2.2 k hk').at fun o e => hk (Ts k) (by simp only [List.mem_cons, List.mem_map, List.mem_range]; exact .inr (.inr ⟨k, hk', rfl⟩)) o e
  · refine next_item st.1 st.2.1 (hit i hi) fun h' it' sb => ?_
    have tup : ∀ k, k < items.size → h'.IsTuple (Ts k) (vals k) := fun k hk' => (st.2.2 k hk').extBut sb.extBut (hTI k hk')
    refine hQ _ _ h' s.toks rfl (tup i hi) ⟨⟨hi, rfl⟩, it', st.2.1.at fun o e => sb.extBut _ _ hne e, tup⟩ fun b o hb e => sb.extBut b o (by simpa using hb) e
  · exact fun _ _ _ _ _ s Q _ hm hQ => wpAny_letOwnedTupleGo_listiter hm.2.1 (hQ s.heap hm.2 fun _ _ _ e => e)
  · intro j T h hm hmem
    exact hTI j hm.1.1 (hm.1.2 ▸ List.mem_singleton.mp hmem)
  · exact fun s Q E st hQ => next_end hh st.1 st.2.1 (by simp) fun h' he' => hQ h' s.toks fun b o hb e => he' b o (by simpa using hb) e
  · exact fun _ _ _ _ st hQ => wpAny_pyIter_listiter st.1 hQ
end
end

section
open PySem PySem.W PyProof.Rows PySem.Calls
def TabOk (pos : Pos) (ps : Array Value) : Prop := ps = #[] ∨ ∃ c' : Addr, ps = #[rawInt pos.line, rawInt pos.col, .ref c']
theorem genexpr_code {M : Model} {A : Around} {E : Value → Shared → Prop} {s : Shared} {env : Env} {c P : Addr} {ps : Array Value} {pos : Pos} {q : Str} {scope : Scope} {Q : Value → Shared → Prop} (hc : env.code = .ref c) (C : CodeHd s.heap c P)
    (ht : s.heap.get? P = some (tabObj ps)) (hok : TabOk pos ps)
    (h : ∀ (c' : Addr) h' tk ps', TabOk pos ps' → h'.get? P = some (tabObj ps') → s.heap.objs.size ≤ h'.objs.size → (∀ b o, b ≠ P → s.heap.get? b = some o → h'.get? b = some o) → Q (.ref c') { s with heap := h', toks := tk }) :
    wpAny M A (genexprCode env pos q scope) Q E s := by
  rcases hok with rfl | ⟨c', rfl⟩
  · exact wpAny_genexprCodeX hc (C.code ht trivial) (C.tab ht) rfl fun c' h' tk hx hge hlt hcode _ htab _ => h c' h' tk _ (.inr ⟨c', rfl⟩) htab.2 (by omega) (fun b o hb e => hx b o hb e)
  · exact wpAny_genexprCode_hit hc (C.code ht (by simp [TriplesOk, rawInt])) (by simp [codeAmong, rawInt]) (h c' s.heap s.toks _ (.inr ⟨c', rfl⟩) ht (Nat.le_refl _) fun _ _ _ e => e)

section
variable {prog : Program} {w : World} {A : Around} {E : Value → Shared → Prop} {s : Shared}
theorem pass_all (n : Nat) : passing (fun _ => true) n 0 = List.range n := by simp [passing]
theorem gen_row {env : Env} {elt iter : Expr} {xa xb : Str} {pa pb pt : Pos} {kt : Nat} {scope : Scope} {pos : Pos} {Q : Value → Shared → Prop} {c P r d : Addr} {K : Frag} {its : Array Value} {n : Nat} {od : Obj} {ps : Array Value}
    {Ts : Nat → Addr} {vals : Nat → Array Value} {F : Nat → Value → Prop} {mg : Str → Option Value} {bm : Addr} {ob : Obj} {Lk : Addr}
    (hh : A.handled = none) (hco : scope.isCoroutine = false) (hclos : closureFor scope env = pure []) (hcell : ∀ y ∈ scope.names, y.2 ≠ .cell) (h0 : scope.names.lookup (".0" : Str) = some NameKind.local)
    (hxa : scope.names.lookup xa = some .local) (hxb : scope.names.lookup xb = some .local) (hab : xa ≠ xb) (hkind : scope.kind = .function) (hroom : A.depth < recursionLimit) (hcode : env.code = .ref c)
    (KF : KFacts K) (X : K.In s.heap) (h1 : s.heap.get? r = some (rowO d its n)) (h2 : s.heap.get? d = some od) (C : CodeHd s.heap c P) (ht : s.heap.get? P = some (tabObj ps)) (hok : TabOk pos ps)
    (hit : ∀ j, j < its.size → its[j]? = some (.ref (Ts j))) (hv : ∀ j, j < its.size → s.heap.IsTuple (Ts j) (vals j)) (hv2 : ∀ j, ∃ va vb, vals j = #[va, vb])
    (hlim : s.heap.NoLimit) (M : BMod s.heap env.globals mg bm ob) (hPg : env.globals ≠ P) (hPb : bm ≠ P) (hPs : cStatics ≠ P) (G : AllBare s.gens) (hLk : Lk < s.heap.objs.size)
    (hiter : ∀ Q' : Value → Shared → Prop, Q' (.ref r) s → wpAny (model prog w) A (eval iter env) Q' E s)
    (helt : ∀ (Cl : Addr) (code : Value) (A' : Around) (E' : Value → Shared → Prop) i va vb (s₂ : Shared) m₂, A'.handled = none → s.heap.objs.size ≤ Cl → i < its.size → vals i = #[va, vb] → s₂.heap.Ns Cl m₂ → m₂ xa = some va → m₂ xb = some vb →
      (∀ b o, b ≠ P → s.heap.get? b = some o → s₂.heap.get? b = some o) → wpAny (model prog w) A' (eval elt (genEnv scope [] Cl code builtinsNs env)) (fun y s₃ => F i y ∧ Keeps s₂ s₃) E' s₂)
    (hs : ∀ x, genFold iter env x = pure x)
    (hQ : ∀ (a : Addr) s₅ ps', TabOk pos ps' → s₅.heap.get? P = some (tabObj ps') → (∀ b o, b ≠ P → s.heap.get? b = some o → s₅.heap.get? b = some o) → AllBare s₅.gens → s₅.os = s.os → Gen prog w A Lk a its.size (fun j y => j < its.size ∧ F j y) s₅ → Q (.ref a) s₅) :
    wpAny (model prog w) A (eval (.GeneratorExp elt [⟨.Tuple [.Name xa pa, .Name xb pb] kt pt, iter, [], 0⟩] scope pos) env) Q E s := by
  have I := row_inst h1 h2
  have hP0 : P < s.heap.objs.size := Heap.lt_size ht
  have hr0 : r < s.heap.objs.size := Heap.lt_size h1
  have hrP : r ≠ P := fun e => by rw [e, ht] at h1; cases h1
  have hT0 : ∀ j, j < its.size → Ts j < s.heap.objs.size ∧ Ts j ≠ P := fun j hj => by
    obtain ⟨o, e, hc, _⟩ := hv j hj
    exact ⟨Heap.lt_size e, fun q => by rw [q, ht] at e; cases e; cases hc⟩
  refine wpAny_GeneratorExp_walksQT hh hco hclos hcell h0 hxa hxb hab hkind hroom (hiter _ (iter_row KF X I ⟨hlim.push _, ?_⟩)) hs
  have up : ∀ b o, s.heap.get? b = some o → (s.heap.push { cls := .type "list_iterator", data := .fields #[.ref r, .int 0 0] }).get? b = some o := fun b o e => Heap.get?_push_of_some _ e
  refine genexpr_code hcode (C.keeps up) (up _ _ ht) hok fun c' h₃ tk₃ ps' hok' ht' hsz hk => ?_
  have hk0 : ∀ b o, b ≠ P → s.heap.get? b = some o → h₃.get? b = some o := fun b o hb e => hk b o hb (up b o e)
  have hsz' : s.heap.objs.size < h₃.objs.size := by rw [Heap.size_push] at hsz; exact hsz
  have M₃ : BMod h₃ env.globals mg bm ob := ⟨M.ns.at' fun o e => hk0 _ o hPg e, M.name, M.ne, hk0 _ _ hPb M.obj, M.cls, M.dict, M.data⟩
  refine wpAny_builtinsFor M₃.ns M₃.name M₃.ne M₃.obj M₃.cls M₃.dict M₃.data ?_
  have hI : h₃.IsListIter s.heap.objs.size r 0 := ⟨_, hk _ _ (Nat.ne_of_gt hP0) (Heap.get?_push_size _ rfl), rfl, rfl⟩
  have W0 := fun (A' : Around) (hA : A'.handled = none) => (walksU_row (prog := prog) (w := w) hA s.heap.objs.size r (Nat.ne_of_lt hr0) its Ts vals hit fun j hj => Nat.ne_of_lt (hT0 j hj).1).bound
  refine ⟨s.heap.objs.size, _, _, its.size, _, _, _, (fun _ => true), F, rfl, W0, (fun i vs hvs => by obtain ⟨va, vb, e⟩ := hv2 i; exact ⟨va, vb, hvs.2.trans e⟩), ⟨hI, ⟨_, _, hk0 _ _ hrP h1, rfl⟩, fun k hk' => (hv k hk').at fun o e => hk0 _ o (hT0 k hk').2 e⟩, ?_, ?_, ?_, ?_, ?_⟩
  · intro b hb
    show b < h₃.objs.size
    simp only [List.mem_cons, List.mem_map, List.mem_range] at hb
    rcases hb with rfl | rfl | ⟨k, hk', rfl⟩
    · exact hsz'
    · exact Nat.lt_trans hr0 hsz'
    · exact Nat.lt_trans (hT0 k hk').1 hsz'
  · exact hlim.elim fun mc h => ⟨mc, h.1.at' fun o e => hk0 _ o hPs e, h.2⟩
  · obtain ⟨mc, hn, _⟩ := hlim
    intro hm
    have := hn.lt
    rw [List.mem_singleton.mp hm] at this
    exact Nat.lt_irrefl _ this
  · intro href hhref
    refine ⟨fun A' E' i va vb s₂ m₂ _ _ _ _ _ _ => ?_, fun A' E' i va vb s₂ m₂ hA hP _ hn ha hb hkp => ?_⟩
    · exact wpAny_pure ⟨rfl, s₂.heap, s₂.toks, rfl, fun _ _ e => e⟩
    · refine helt _ _ A' E' i va vb s₂ m₂ hA (Nat.le_of_lt hsz') hP.1 hP.2.symm hn ha hb fun b o hb e => ?_
      have hb0 := Heap.lt_size e
      exact hkp b (List.mem_range.mpr (Nat.lt_trans hb0 hsz')) (fun hm => by rw [List.mem_singleton.mp hm] at hb0; exact Nat.lt_irrefl _ hb0) o (hhref b o (hk0 b o hb e))
  · intro a h₅ tk gs hgb hag hsz₅ hk₅ W hat
    refine hQ a _ ps' hok' (hk₅ _ _ ht') (fun b o hb e => hk₅ _ _ (hk0 b o hb e)) (G.push hgb) rfl ?_
    have e1 : (passing (fun _ => true) its.size 0).length = its.size := by rw [pass_all]; simp
    have e2 : (fun (j : Nat) (y : Value) => ∃ i, (passing (fun _ => true) its.size 0)[j]? = some i ∧ F i y) = fun j y => j < its.size ∧ F j y := by
      funext j y
      rw [pass_all]
      refine propext ⟨fun ⟨i, h, f⟩ => ?_, fun ⟨h, f⟩ => ⟨j, by simp [h], f⟩⟩
      obtain ⟨h1, h2⟩ := List.getElem?_eq_some_iff.mp h
      simp only [List.length_range] at h1
      simp only [List.getElem_range] at h2
      exact ⟨h1, h2 ▸ f⟩
    rw [e1, e2] at W
    refine ⟨_, _, _, _, W, hat, (fun i s' st => st.1.typeIs), List.mem_cons_self, ?_, ?_⟩
    · intro b hb
      show b < h₅.objs.size
      rw [hsz₅]
      simp only [List.mem_cons, List.mem_range] at hb
      rcases hb with rfl | rfl | hb
      · exact Nat.lt_succ_self _
      · exact Nat.lt_succ_of_lt hag
      · exact Nat.lt_succ_of_lt (Nat.lt_trans hb hag)
    · intro b hb
      simp only [List.mem_cons, List.not_mem_nil, or_false] at hb
      rcases hb with rfl | rfl
      · exact Nat.lt_trans hLk hsz'
      · exact hLk
end
end

section
open PySem PySem.W PyProof.Rows PySem.Calls
abbrev genSc : Scope := { kind := .function, names := [(Str.ofString ".0", .local), (Str.ofString "fws", .local), (Str.ofString "part", .local), (Str.ofString "EMPTYSTRING", .globalImplicit)], isGenerator := true, isCoroutine := false }
abbrev strSc : Scope := { kind := .function, names := [(Str.ofString "self", .local), (Str.ofString "EMPTYSTRING", .globalImplicit)], isGenerator := false, isCoroutine := false }
abbrev strElt : Expr := (((Expr.Name (Str.ofString "EMPTYSTRING") ⟨27, 33, 27, 44⟩).Attribute (Str.ofString "join") ⟨27, 33, 27, 49⟩).Call [Expr.Tuple [Expr.Name (Str.ofString "fws") ⟨27, 51, 27, 54⟩, Expr.Name (Str.ofString "part") ⟨27, 56, 27, 60⟩] 0 ⟨27, 50, 27, 61⟩] [] ⟨27, 33, 27, 62⟩)
theorem C_empty : C (Str.ofString "") = [] := rfl
theorem join_two (x y : Str) : Txt.join (Str.ofString "") [x, y] = x ++ y := by
  refine str_ext ?_
  show C (x ++ Str.ofString "" ++ y) = _
  rw [C_append, C_append, C_empty, C_append, List.append_nil]
theorem elt_c {prog : Program} {w : World} {A' : Around} {E' : Value → Shared → Prop} {s : Shared} (env : Env) (hsc : env.scope = genSc) (hgl : env.globals = mainGlobals) {x y : Str} {tx ty te : Tok} {m mg : Str → Option Value}
    (hn : s.heap.Ns env.locals m) (hg : s.heap.Ns mainGlobals mg) (hE : mg "EMPTYSTRING" = some (.str "" te)) (ha : m "fws" = some (.str x tx)) (hb : m "part" = some (.str y ty)) (hl : x.length ≤ 100 ∧ y.length ≤ 100) :
    wpAny (model prog w) A' (eval strElt env) (fun v s' => (∃ u, v = .str (x ++ y) u) ∧ Keeps s s') E' s := by
  unfold strElt
  have hk : env.scope.kind = .function := by rw [hsc]
  have k1 : env.kindOf "EMPTYSTRING" = some .globalImplicit := by unfold Env.kindOf; rw [hsc]; rfl
  have k2 : env.kindOf "fws" = some .local := by unfold Env.kindOf; rw [hsc]; rfl
  have k3 : env.kindOf "part" = some .local := by unfold Env.kindOf; rw [hsc]; rfl
  refine MethodCall_ (Calls.Name_function_global hk k1 (Calls.loadGlobal_global (hgl ▸ hg) hE (GM.join (callWith_method1 (spliced_more ?_)))))
  refine wpAny_Tuple (spliced_more (wpAny_Name (wpAny_loadName_local hk k2 hn ha (spliced_more (wpAny_Name (wpAny_loadName_local hk k3 hn hb (spliced_none ?_)))))))
  refine ⟨by rw [sizeLine_eq]; simp, spliced_none ?_⟩
  refine join_tuple (D := s.heap.objs.size) (items := #[.str x tx, .str y ty]) (ys := [x, y]) ⟨_, Heap.get?_push_size _ rfl, rfl, _, rfl⟩ (.cons _ _ (.cons _ _ .nil)) ?_ fun t' k => ?_
  · have : (Str.ofString "").length = 0 := rfl
    simp [this]; omega
  · refine ⟨⟨t', ?_⟩, _, _, rfl, fun b o e => Heap.get?_push_of_some _ e⟩
    rw [join_two]
end

section
open PySem PySem.W PyProof.Rows PySem.Calls
abbrev Cell9 : Type := Addr × Tok × Str × Tok
abbrev tupOf (t : Cell9) : Obj := { cls := .type "tuple", data := .seq #[.str (Str.ofString "") t.2.1, .str t.2.2.1 t.2.2.2] }
def RowItems (h : Heap) (tvs : List Cell9) : Prop := ∀ t ∈ tvs, h.get? t.1 = some (tupOf t) ∧ t.2.2.1.length = 1
abbrev rowI (tvs : List Cell9) : Array Value := (tvs.map fun t => Value.ref t.1).toArray
def textOf (tvs : List Cell9) : Str := Txt.join (Str.ofString "") (tvs.map fun t => t.2.2.1)
abbrev genPos : Pos := ⟨27, 32, 27, 85⟩
theorem empty_append (x : Str) : Str.ofString "" ++ x = x := str_ext (by rw [C_append, C_empty, List.nil_append])
theorem codeHd_of {K : Frag} {h : Heap} (X : K.In h) (e : K.lookup 73 = some ⟨.type "code", none, .fields #[.str (Str.ofString "__str__") 253, .str (Str.ofString "_Accumulator.__str__") 254, .str (Str.ofString "/claim/cut.py") 255, .int 26 0, .int 1 0, .int 0 0, .int 0 0, .int 3 0, .ref 68, .bool true, .int 181 0, .ref 69, .none, .ref 70, .ref 71, .ref 72, .int 257 0, .int 26 0, .str (Str.ofString "/claim/cut.py") 258], #[]⟩) : CodeHd h 73 69 :=
  ⟨_, _, _, _, _, _, _, _, _, X _ _ e, rfl, rfl, rfl, rfl, rfl, rfl, rfl, rfl, by decide⟩
theorem row_texts (tvs : List Cell9) : ((List.range (rowI tvs).size).map fun j => (tvs[j]?.map fun t => t.2.2.1).getD (Str.ofString "")) = tvs.map fun t => t.2.2.1 := by
  refine List.ext_getElem (by simp) fun i h1 h2 => ?_
  have hi : i < tvs.length := by simpa using h2
  simp [List.getElem?_eq_getElem hi]
theorem joinOk_row {h : Heap} {tvs : List Cell9} (hr : RowItems h tvs) (hlen : tvs.length ≤ 100) : JoinOk (Str.ofString "") (tvs.map fun t => t.2.2.1) = true := by
  refine joinOk_of ?_
  have e : ((tvs.map fun t => t.2.2.1).map (·.length)).sum = tvs.length := by
    clear hlen
    induction tvs with
    | nil => rfl
    | cons t r ih =>
      have h1 := (hr t (.head _)).2
      have h2 := ih fun x hx => hr x (.tail _ hx)
      simp only [List.map_cons, List.sum_cons, List.length_cons, h1, h2]
      omega
  rw [e, show (Str.ofString "").length = 0 from rfl]
  omega
section
local macro_rules | `(tactic| walk_at "eval GeneratorExp") => `(tactic| refine stop_here ?_)
local macro_rules | `(tactic| walk_at "call builtin:str.join") => `(tactic| refine stop_here ?_)
theorem str_c (w : World) (r d : Addr) (tvs : List Cell9) (n : Nat) (od : Obj) (s : Shared) (ps : Array Value)
    (h1 : s.heap.get? r = some (rowO d (rowI tvs) n)) (h2 : s.heap.get? d = some od) (hd9 : d ≠ 69) (hr : RowItems s.heap tvs) (hlen : tvs.length ≤ 100) (hok : TabOk genPos ps) (G : AllBare s.gens) :
  ∀ (mean : ExcName → Option Value) (mg mb : Str → Option Value) (cn : Str) (cs : Scope) (a : Addr) (ccd : Value) (base h₀ : Heap) (L : Addr) (m : Str → Option Value) (Q E : Value → Shared → Prop),
    Below callerA base [] h₀ → Fr h₀ L s.heap m → (hd.heap_39 w.params).In h₀ → News h₀ L s.heap [(69, tabObj ps)] → Top topProg LT mean mg mb h₀ → cs.kind = .function →
    (∀ t s' ps', TabOk genPos ps' → s'.heap.get? 69 = some (tabObj ps') → (∀ b o, b ≠ 69 → s.heap.get? b = some o → s'.heap.get? b = some o) → AllBare s'.gens → s'.os = s.os → Q (.str (textOf tvs) t) s') →
      wpAny (model PG w) (callerA.deeper (envOf cn cs L a ccd)).in1.in1 (call (.ref 74) [.ref r]) Q E s := by
  have _mark : PySem.Challenge.rw_wo0022_01 = PySem.Challenge.rw_wo0022_01 ∧ hd.heap_39 = hd.heap_39 := ⟨rfl, rfl⟩
  revert _mark
  k_fill
  intro _
  intro mean mg mb cn cs a ccd base h₀ L m Q E B F X N T hk hret
  have hc73 : (hd.heap_39 w.params).lookup 73 = some ⟨.type "code", none, .fields #[.str (Str.ofString "__str__") 253, .str (Str.ofString "_Accumulator.__str__") 254, .str (Str.ofString "/claim/cut.py") 255, .int 26 0, .int 1 0, .int 0 0, .int 0 0, .int 3 0, .ref 68, .bool true, .int 181 0, .ref 69, .none, .ref 70, .ref 71, .ref 72, .int 257 0, .int 26 0, .str (Str.ofString "/claim/cut.py") 258], #[]⟩ := by k_is
  refine wpAny_call ?_
  k_dflt (refine' code_defG ?k1 ?k2 ?k3 ?k4 ?k5 ?kA ?kF ?kK ?k6 ?k7 ?k8 ?k9 ?kB ?_ ?c2 ?c3 ?c4 ?c5; (case kA => exact rfl); (case kF => exact rfl); (case kK => assumption); (case k1 => k_asm); (case k2 => k_asm); (case k3 => k_asm); (case k4 => k_asm); (case k5 => k_asm); (case k6 => k_is); (case k7 => k_is); (case k8 => ktr_room); (case k9 => exact BindsTo.of_eq rfl); (case c5 => decide); (case kB => exact locs rfl); (case c2 => exact rfl); (case c3 => exact rfl); (case c4 => exact rfl); k_whole; intro g' L' h' FG' F' N' B' X' T' GS'; (try dsimp only); (try k_fold))
  have F2 : Fr g' L' h' (fun y => List.lookup y [(Str.ofString "self", Value.ref r)]) := F'
  clear F'
  have hold : ∀ b o, b ≠ 69 → s.heap.get? b = some o → h'.get? b = some o := fun b o hb e => F2.keep b o (GS' b o e (by simpa using hb))
  have h73 : 73 < L' := Nat.lt_of_lt_of_le (Heap.lt_size (X' _ _ hc73)) F2.above
  have hLs : ∀ b o, s.heap.get? b = some o → b < L' := fun b o e => by
    by_cases hb : b = 69
    · subst hb; exact Nat.lt_trans (by decide) h73
    · exact Nat.lt_of_lt_of_le (Heap.lt_size (GS' b o e (by simpa using hb))) F2.above
  k_steps
  refine Stop.mk ?_
  obtain ⟨bm, ob, M⟩ := bmod_of_top T'
  have M' := M.keeps F2.keep
  have N69 := N' _ List.mem_cons_self
  have hr69 : r ≠ 69 := fun e => by rw [e] at h1; have := (N _ List.mem_cons_self).1; rw [h1] at this; cases this
  have C0 : CodeHd h' 73 69 := (codeHd_of X' hc73).keeps F2.keep
  refine gen_row (K := hd.heap_39 w.params) (c := 73) (P := 69) (r := r) (d := d) (its := rowI tvs) (n := n) (od := od) (ps := ps) (Lk := L') (Ts := fun j => (tvs[j]?.map fun t => t.1).getD 0) (vals := fun j => (tvs[j]?.map fun t => (#[.str (Str.ofString "") t.2.1, .str t.2.2.1 t.2.2.2] : Array Value)).getD #[.none, .none])
    (F := fun j y => ∃ u, y = .str ((tvs[j]?.map fun t => t.2.2.1).getD (Str.ofString "")) u) (mg := mg) (bm := bm) (ob := ob)
    ?hh rfl rfl (by decide) rfl rfl rfl (by decide) rfl ?room rfl (kf w) (X'.keeps F2.keep) (hold _ _ hr69 h1) ?hd C0 N69.1 hok ?hit ?hv ?hv2 (T'.nolimit.keeps F2.keep) M' ?hPg ?hPb (by decide) G F2.ns.lt ?hiter ?helt (fun _ => rfl) ?hQ
  case hh => rfl
  case room => ktr_room
  case hd => exact hold _ _ hd9 h2
  case hPg => exact (by decide : (3 : Nat) ≠ 69)
  case hPb => exact fun e => by have := M.obj; rw [e, N69.2.2] at this; cases this
  case hit =>
    intro j hj
    have hj' : j < tvs.length := by simpa using hj
    simp [List.getElem?_eq_getElem hj']
  case hv =>
    intro j hj
    have hj' : j < tvs.length := by simpa using hj
    simp only [List.getElem?_eq_getElem hj', Option.map_some, Option.getD_some]
    have hx := hr _ (List.getElem_mem hj')
    refine ⟨_, hold _ _ (fun e => ?_) hx.1, rfl, _, rfl⟩
    rw [e, (N _ List.mem_cons_self).1] at hx
    cases hx.1
  case hv2 =>
    intro j
    cases hj : tvs[j]? with
    | none => exact ⟨_, _, by simp; exact ⟨rfl, rfl⟩⟩
    | some t => exact ⟨_, _, by simp; exact ⟨rfl, rfl⟩⟩
  case hiter =>
    intro Q' hq
    exact wpAny_Name (wpAny_loadName_local rfl rfl F2.ns rfl hq)
  case helt =>
    intro Cl code A' E' i va vb s₂ m₂ hA hCl hi hv hn ha hb hk2
    have hi' : i < tvs.length := by simpa using hi
    simp only [List.getElem?_eq_getElem hi', Option.map_some, Option.getD_some] at hv ⊢
    have hx := hr _ (List.getElem_mem hi')
    obtain ⟨e1, e2⟩ : Value.str (Str.ofString "") tvs[i].2.1 = va ∧ Value.str tvs[i].2.2.1 tvs[i].2.2.2 = vb := by simpa using congrArg Array.toList hv
    subst e1 e2
    refine wpAny_mono (elt_c _ rfl rfl hn (M'.ns.at' fun o e => hk2 _ o (by decide) e) (mg_of X' T'.g (kf w).emp) ha hb ⟨by decide, by rw [hx.2]; decide⟩) (fun v s' hv => ⟨?_, hv.2⟩) fun _ _ e => e
    obtain ⟨⟨u, rfl⟩, -⟩ := hv
    exact ⟨u, by rw [empty_append]⟩
  case hQ =>
    intro ag s₅ ps' hok5 ht5 hk5 G5 hos5 X5
    dsimp only
    refine spliced_none ?_
    dsimp only [List.cons_append, List.nil_append]
    have F5 : Fr g' L' s₅.heap (fun y => List.lookup y [(Str.ofString "self", Value.ref r)]) := ⟨F2.ns.at' fun o e => hk5 _ o (Nat.ne_of_gt (Nat.lt_trans (by decide) h73)) e, fun b o e => hk5 b o (fun q => by rw [q, N69.2.2] at e; cases e) (F2.keep b o e), F2.above⟩
    refine join_rowsK (tx := fun j => (tvs[j]?.map fun t => t.2.2.1).getD (Str.ofString "")) F5 G5 X5 (Nat.le_refl _) (fun j v hv => hv.2) ?hok (fun s6 t6 F6 G6 hos6 hk6 => ?_) ?hsz
    case hok => rw [row_texts]; exact joinOk_row hr hlen
    case hsz => rw [sizeLine_eq]; simp; omega
    have e6 : Txt.join (Str.ofString "") ((List.range (rowI tvs).size).map fun j => (tvs[j]?.map fun t => t.2.2.1).getD (Str.ofString "")) = textOf tvs := by rw [row_texts]; rfl
    rw [e6]
    have N6 : News g' L' s6.heap [(69, tabObj ps')] := fun p hp => by
      rw [List.mem_singleton.mp hp]
      exact ⟨hk6 _ _ (Nat.le_of_lt (Nat.lt_trans (by decide : (69 : Nat) < 73) h73)) ht5, N69.2⟩
    clear N' F5
    k_steps
    exact hret _ _ ps' hok5 (hk6 _ _ (Nat.le_of_lt (Nat.lt_trans (by decide : (69 : Nat) < 73) h73)) ht5) (fun b o hb e => hk6 b o (Nat.le_of_lt (hLs b o e)) (hk5 b o hb (hold b o hb e))) G6 (hos6.trans hos5)
end
end

section
open PySem PySem.W PyProof.Rows PySem.Calls
theorem str_call (w : World) (r d : Addr) (tvs : List Cell9) (n : Nat) (od : Obj) (s : Shared) (ps : Array Value)
    (h1 : s.heap.get? r = some (rowO d (rowI tvs) n)) (h2 : s.heap.get? d = some od) (hd9 : d ≠ 69) (hr : RowItems s.heap tvs) (hlen : tvs.length ≤ 100) (hok : TabOk genPos ps) (G : AllBare s.gens) 
    (mean : ExcName → Option Value) (mg mb : Str → Option Value) (cn : Str) (cs : Scope) (a : Addr) (ccd : Value) (base h₀ : Heap) (L : Addr) (m : Str → Option Value) (Q E : Value → Shared → Prop)
    (B : Below callerA base [] h₀) (F : Fr h₀ L s.heap m) (X : (hd.heap_39 w.params).In h₀) (N : News h₀ L s.heap [(69, tabObj ps)]) (T : Top topProg LT mean mg mb h₀) (hk : cs.kind = .function)
    (hret : ∀ t s' ps', TabOk genPos ps' → s'.heap.get? 69 = some (tabObj ps') → (∀ b o, b ≠ 69 → s.heap.get? b = some o → s'.heap.get? b = some o) → AllBare s'.gens → s'.os = s.os → Q (.str (textOf tvs) t) s') :
      wpAny (model PG w) (callerA.deeper (envOf cn cs L a ccd)) (call (.type "str") [.ref r]) Q E s := by
  refine kso_call (K := hd.heap_39 w.params) (C := 100) ?hu (X.keeps F.keep) (row_inst h1 h2) (kf w).str (by unfold isFn; rw [(kf w).t74]; decide) ?_
  case hu => k_units
  exact str_c w r d tvs n od s ps h1 h2 hd9 hr hlen hok G mean mg mb cn cs a ccd base h₀ L m _ _ B F X N T hk hret
end

section
open PySem PySem.W PyProof.Rows PySem.Calls
theorem canon_list_ga : (Manifest.canonical "list.__getattribute__" != "object.__getattribute__") = false := by decide +kernel
theorem method_row {prog : Program} {w : World} {A : Around} {E : Value → Shared → Prop} {s : Shared} {K : Frag} {r : Addr} {ox od : Obj} {name : Str} {pl : Sem Bool} {f : Value} {tf : String} {Q : Value × List Value → Shared → Prop}
    (KF : KFacts K) (X : K.In s.heap) (I : InstAt s.heap r ox 100 (some od)) (hf : findIn K (.ref 100) name = some (some f)) (ht : typeIn K f = some (.type tf)) (htf : tf = "function" ∨ tf = "method_descriptor") (hn : lookIn name od = some none) (h : Q (f, [.ref r]) s) :
    wpAny (model prog w) A (getMethod (.ref r) name pl) Q E s := by
  have L0 := I.type (M := model prog w)
  unfold getMethod specialOf
  refine wpAny_bind (wpAny_bind (L0.here ((looks_findIn X KF.ga).here ?_)))
  dsimp only
  rw [canon_list_ga, if_neg (by decide)]
  refine wpAny_bind (wpAny_bind (L0.here ((looks_findIn X KF.gat).here (wpAny_bind (wpAny_bind (L0.here ((looks_findIn X hf).here (wpAny_bind ((looks_typeIn X ht).here ?_)))))))))
  rw [if_neg (by rcases htf with rfl | rfl <;> decide +kernel)]
  refine wpAny_bind (wpAny_loadPart I.at_ ?_)
  have hd := I.dict
  cases e : ox.dict with
  | none => rw [e] at hd; exact hd.elim
  | some dx =>
    rw [e] at hd
    refine wpAny_bind (wpAny_bind (wpAny_loadPart hd ?_))
    rw [nsLook_of hn]
    exact wpAny_pure (wpAny_bind (wpAny_rule (wpAny_pure h)))
structure DictOk (od : Obj) : Prop where
  push : lookIn "push" od = some none
  pop : lookIn "pop_from" od = some none
  pc : lookIn "part_count" od = some none
  app : lookIn "append" od = some none
section
local macro_rules | `(tactic| walk_at "last getMethod ref") => `(tactic| refine stop_here ?_)
local macro_rules | `(tactic| walk_at "getMethod ref") => `(tactic| refine stop_here ?_)
local macro_rules | `(tactic| walk_at "call builtin:list.append") => `(tactic| refine stop_here ?_)
theorem push_c (w : World) (r d : Addr) (its : Array Value) (n : Nat) (od : Obj) (s : Shared) (x y : Str) (tx ty : Tok)
    (h1 : s.heap.get? r = some (rowO d its n)) (h2 : s.heap.get? d = some od) (hdr : d ≠ r) (hod : DictOk od) (hlen : its.size ≤ 100) :
  ∀ (mean : ExcName → Option Value) (mg mb : Str → Option Value) (cn : Str) (cs : Scope) (a : Addr) (ccd : Value) (base h₀ : Heap) (L : Addr) (m : Str → Option Value) (Q E : Value → Shared → Prop),
    Below callerA base [] h₀ → Fr h₀ L s.heap m → (hd.heap_39 w.params).In h₀ → News h₀ L s.heap [(r, rowO d its n)] → Top topProg LT mean mg mb h₀ → cs.kind = .function →
    (∀ T h' tk', s.heap.get? T = none → h'.get? T = some { cls := .type "tuple", data := .seq #[.str x tx, .str y ty] } → h'.get? r = some (rowO d (its.push (.ref T)) (n + 1)) → (∀ b o, b ≠ r → s.heap.get? b = some o → h'.get? b = some o) → Q .none { s with heap := h', toks := tk' }) →
      wpAny (model PG w) (callerA.deeper (envOf cn cs L a ccd)) (call (.ref 45) [.ref r, .str x tx, .str y ty]) Q E s := by
  have _mark : PySem.Challenge.rw_wo0022_01 = PySem.Challenge.rw_wo0022_01 ∧ hd.heap_39 = hd.heap_39 := ⟨rfl, rfl⟩
  revert _mark
  k_fill
  intro _
  intro mean mg mb cn cs a ccd base h₀ L m Q E B F X N T hk hret
  refine wpAny_call ?_
  k_dflt (refine' code_defG ?k1 ?k2 ?k3 ?k4 ?k5 ?kA ?kF ?kK ?k6 ?k7 ?k8 ?k9 ?kB ?_ ?c2 ?c3 ?c4 ?c5; (case kA => exact rfl); (case kF => exact rfl); (case kK => assumption); (case k1 => k_asm); (case k2 => k_asm); (case k3 => k_asm); (case k4 => k_asm); (case k5 => k_asm); (case k6 => k_is); (case k7 => k_is); (case k8 => ktr_room); (case k9 => exact BindsTo.of_eq rfl); (case c5 => decide); (case kB => exact locs rfl); (case c2 => exact rfl); (case c3 => exact rfl); (case c4 => exact rfl); k_whole; intro g' L' h' FG' F' N' B' X' T' GS'; (try dsimp only); (try k_fold))
  have F2 : Fr g' L' h' (fun y' => List.lookup y' [(Str.ofString "string", Value.str y ty), (Str.ofString "fws", Value.str x tx), (Str.ofString "self", Value.ref r)]) := F'
  clear F'
  have hold : ∀ b o, b ≠ r → s.heap.get? b = some o → g'.get? b = some o := fun b o hb e => GS' b o e (by simpa using hb)
  k_steps
  refine Stop.mk ?_
  refine method_row (kf w) (X'.keeps F2.keep) (row_inst (N' _ List.mem_cons_self).1 (F2.keep _ _ (hold _ _ hdr h2))) (kf w).app (kf w).tapp (.inr rfl) hod.app ?_
  k_steps
  refine Stop.mk ?_
  rename Fr g' _ _ _ => F5
  rename News g' _ _ _ => N5
  rename_i T1 h5 l5
  have NT := N5 _ List.mem_cons_self
  have NR := N5 _ (List.mem_cons_of_mem _ List.mem_cons_self)
  refine call_row_append (kf w) (X'.keeps F5.keep) NR.1 (F5.keep _ _ (hold _ _ hdr h2)) (fun h6 sb hr6 => ?_) (by rw [sizeLine_eq]; omega)
  have F6 := F5.change sb NR.2.1 NR.2.2
  have N6 : News g' L' h6 [(T1, { cls := .type "tuple", data := .seq #[.str x tx, .str y ty] }), (r, rowO d (its.push (.ref T1)) (n + 1))] := fun p hp => by
    simp only [List.mem_cons, List.not_mem_nil, or_false] at hp
    rcases hp with rfl | rfl
    · exact ⟨sb.extBut _ _ (Nat.ne_of_gt l5) NT.1, NT.2⟩
    · exact ⟨hr6, NR.2⟩
  clear F5 N5
  k_steps
  rename Fr g' _ _ _ => F7
  rename News g' _ _ _ => N7
  refine hret T1 _ _ ?_ (N7 _ List.mem_cons_self).1 (N7 _ (List.mem_cons_of_mem _ List.mem_cons_self)).1 fun b o hb e => F7.keep b o (hold b o hb e)
  cases e : s.heap.get? T1 with
  | none => rfl
  | some o =>
    have := hold T1 o (Nat.ne_of_gt l5) e
    rw [NT.2.2] at this; cases this
end
end

section
open PySem PySem.W PyProof.Rows PySem.Calls
section
variable {prog : Program} {w : World} {A : Around} {E : Value → Shared → Prop} {s : Shared} {K : Frag} {r : Addr} {ox : Obj} {od : Option Obj}
theorem call_row_method {id n : String} {b : Builtin} {rest : List Value} {Q : Value → Shared → Prop} (KF : KFacts K) (X : K.In s.heap) (I : InstAt s.heap r ox 100 od) (hp : plainId id = true) (hb : entryFor table id = some b)
    (hk : builtinKind id = some .method) (hs : splitId id = some ("list", n)) (ha : argsOk id ⟨.ref r :: rest, []⟩)
    (hc : wpAny (model prog w) A.in1 (b ⟨.ref r :: rest, []⟩) (fun fin s' => ∃ v, fin = .done (.ret v) ∧ Q v s') E s) : wpAny (model prog w) A (call (.builtin id) (.ref r :: rest)) Q E s := by
  refine wpAny_call (codeAny_call_builtin hp hb (check_method hk hs (I.type.andThen (looks_mroIn X KF.mlist)) ha (wpAny_mono hc (fun fin s' h' => ?_) fun _ _ h' => h')))
  obtain ⟨v, rfl, hv⟩ := h'; exact hv
theorem special_row {id : String} {name : Str} {args : List Value} {Q : Option Value → Shared → Prop} (X : K.In s.heap) (I : InstAt s.heap r ox 100 od) (hs : findIn K (.ref 100) name = some (some (.builtin id)))
    (hb : bindSpecial (.builtin id) (.ref r) = pure (.builtin id, [.ref r])) (h : wpAny (model prog w) A (call (.builtin id) (.ref r :: args)) (fun v => Q (some v)) E s) : wpAny (model prog w) A (callSpecial? (.ref r) name args) Q E s := by
  refine wpAny_bind (wpAny_bind (I.type.here ((looks_findIn X hs).here (wpAny_holding (wpAny_bind ?_)))))
  rw [hb]
  exact wpAny_pure (wpAny_bind (wpAny_mono h (fun _ _ z => wpAny_pure z) fun _ _ z => z))
theorem seqKey_row {k : Value} {name : Str} {Q : Value → Shared → Prop} (KF : KFacts K) (X : K.In s.heap) (I : InstAt s.heap r ox 100 od) (h : Q k s) : wpAny (model prog w) A (sequenceKey (.ref r) k name) Q E s := by
  unfold sequenceKey
  refine wpAny_bind (I.type.here ?_)
  dsimp only
  simp only [seqItemTypes, List.anyM]
  refine wpAny_bind (wpAny_bind ((looks_mroIn X KF.deq).here ?_))
  exact wpAny_pure (wpAny_pure h)
theorem listItems_seq {l : Addr} {o : Obj} {its : Array Value} {n : Nat} {Q : Array Value → Shared → Prop} (ho : s.heap.get? l = some o) (hd : o.data = .seq its n) (h : Q its s) : wpAny (model prog w) A (Builtin.List.listItems (.ref l)) Q E s := by
  unfold Builtin.List.listItems
  exact wpAny_bind (wpAny_seqItems ho hd (wpAny_pure h))
theorem sub_slice {sl : Addr} {vl vu vs : Value} {Q : Option Int → Shared → Prop} (hs : s.heap.IsSliceOf sl vl vu vs) (h : Q none s) : wpAny (model prog w) A (Builtin.List.listSubscript? (.ref sl)) Q E s := by
  obtain ⟨os, hos, hcs, hds⟩ := id hs
  unfold Builtin.List.listSubscript?
  refine wpAny_bind (wpAny_specialOf (T := "slice") ⟨os, hos, hcs⟩ slice_no_index ?_)
  simp only [Option.isNone_none, if_true]
  exact wpAny_pure h
theorem parts_from {sl : Addr} {k : Int} {t : Tok} {Q : Value × Value × Value → Shared → Prop} (hs : s.heap.IsSliceOf sl (.int k t) .none .none) (h : Q (rawInt k, .none, .none) s) : wpAny (model prog w) A (Builtin.List.listSliceParts (.ref sl)) Q E s := by
  obtain ⟨os, hos, hcs, hds⟩ := id hs
  rw [listSliceParts_eq]
  refine wpAny_bind (wpAny_field hos hds (x := .none) rfl (wpAny_bind (wpAny_listPart .none ?_)))
  rw [if_neg (by decide)]
  exact wpAny_bind (wpAny_field hos hds (x := .int k t) rfl (wpAny_bind (wpAny_listPart (.int k t) (wpAny_bind (wpAny_field hos hds (x := .none) rfl (wpAny_bind (wpAny_listPart .none (wpAny_pure h))))))))
theorem bounds_from {k n : Nat} (h : k ≤ n) : sliceBounds (some (k : Int)) none none n = ((k : Int), (n : Int), 1) := by
  unfold sliceBounds
  simp
  omega
theorem indices_from {k n : Nat} (h : k ≤ n) : sliceIndices (rawInt k) .none .none n = pure ((k : Int), (n : Int), 1) := by
  have := sliceIndices_raw (some (k : Int)) none none n (by simp)
  rw [bounds_from h] at this
  exact this
theorem pick_from {xs : List Value} {k : Nat} (h : k ≤ xs.length) : ((sliceRange (k : Int) (xs.length : Int) 1).filterMap (xs.toArray[·]?)).toArray = (xs.drop k).toArray := by
  have e := bounds_from (k := k) (n := xs.toArray.size) (by simpa using h)
  have e2 := kmk_pick_nat xs.toArray e
  unfold slicePick at e2
  rw [e] at e2
  simp only [List.size_toArray] at e2
  rw [e2, List.take_of_length_le (by simp)]
theorem getItem_row {d sl : Addr} {xs : List Value} {n k : Nat} {t : Tok} {odO : Obj} {Q : Value → Shared → Prop} (KF : KFacts K) (X : K.In s.heap) (h1 : s.heap.get? r = some (rowO d xs.toArray n)) (h2 : s.heap.get? d = some odO)
    (hs : s.heap.IsSliceOf sl (.int k t) .none .none) (hk : k ≤ xs.length) (hlen : xs.length ≤ 1000)
    (h : Q (.ref s.heap.objs.size) { s with heap := s.heap.push { cls := .type "list", data := .seq (xs.drop k).toArray } }) : wpAny (model prog w) A (getItem (.ref r) (.ref sl)) Q E s := by
  have I := row_inst h1 h2
  obtain ⟨os, hos, hcs, hds⟩ := id hs
  unfold getItem
  try with_reducible refine wpAny_holding ?_
  refine wpAny_bind (seqKey_row KF X I (wpAny_bind (special_row X I KF.gi (slot_list_getitem.bind _) (call_row_method KF X I (by decide +kernel) entry_list_getitem (by decide +kernel) (n := "__getitem__") (by decide +kernel) (args_list_getitem _ _) ?_))))
  show wpAny _ _ (Builtin.List.listSubscript? (.ref sl) >>= _) _ _ s
  refine wpAny_bind (sub_slice hs ?_)
  show wpAny _ _ (typeOf (.ref sl) >>= _) _ _ s
  refine wpAny_bind (wpAny_typeOf (T := "slice") ⟨os, hos, hcs⟩ ?_)
  rw [if_neg (by decide)]
  refine wpAny_bind (parts_from hs (wpAny_bind (listItems_seq h1 rfl ?_)))
  dsimp only
  have e : xs.toArray.size = xs.length := by simp
  rw [e, indices_from hk]
  refine wpAny_bind (wpAny_pure ?_)
  rw [pick_from hk]
  refine wpAny_bind (wpAny_newObj_type (wpAny_pure ⟨_, rfl, wpAny_pure h⟩) ?_)
  show (xs.drop k).toArray.size ≤ sizeLine
  rw [sizeLine_eq]; simp; omega
theorem setItem_row {d sl v : Addr} {xs : List Value} {n k nv : Nat} {t : Tok} {odO : Obj} {Q : Unit → Shared → Prop} (KF : KFacts K) (X : K.In s.heap) (h1 : s.heap.get? r = some (rowO d xs.toArray n)) (h2 : s.heap.get? d = some odO)
    (hs : s.heap.IsSliceOf sl (.int k t) .none .none) (hv : s.heap.get? v = some (W.listOf #[] nv)) (hne : v ≠ r) (hk : k ≤ xs.length) (hlen : xs.length ≤ 1000)
    (h : ∀ h', Heap.SameBut r s.heap h' → (∃ n', h'.get? r = some (rowO d (xs.take k).toArray n')) → Q () { s with heap := h' }) : wpAny (model prog w) A (setItem (.ref r) (.ref sl) (.ref v)) Q E s := by
  have I := row_inst h1 h2
  obtain ⟨os, hos, hcs, hds⟩ := id hs
  unfold setItem
  try with_reducible refine wpAny_holding ?_
  refine wpAny_bind (seqKey_row KF X I (wpAny_bind (special_row X I KF.si (F.slot_list_setitem.bind _) (call_row_slot KF X I (by decide +kernel) F.entry_list_setitem (by decide +kernel) (n := "__setitem__") (by decide +kernel) (F.args_list_setitem_3 _ _ _) ?_))))
  show wpAny _ _ (Builtin.List.listSubscript? (.ref sl) >>= _) _ _ s
  refine wpAny_bind (sub_slice hs ?_)
  show wpAny _ _ (typeOf (.ref sl) >>= _) _ _ s
  refine wpAny_bind (wpAny_typeOf (T := "slice") ⟨os, hos, hcs⟩ ?_)
  rw [if_neg (by decide)]
  refine wpAny_bind (parts_from hs ?_)
  dsimp only
  rw [if_neg (by simp [Builtin.List.listSameRef]; exact fun e => hne e.symm)]
  unfold Builtin.List.listAllItems
  refine wpAny_bind (wpAny_bind (wpAny_typeOf (T := "list") ⟨_, hv, rfl⟩ ?_))
  rw [if_pos (by decide)]
  refine listItems_seq hv rfl (wpAny_bind (listItems_seq h1 rfl ?_))
  have e : xs.toArray.size = xs.length := by simp
  rw [e, indices_from hk]
  refine wpAny_bind (wpAny_pure ?_)
  dsimp only
  rw [if_pos (by decide)]
  refine wpAny_bind (wpAny_rule ?_)
  rw [if_neg (by unfold Builtin.List.listTooLong; rw [sizeLine_eq]; simp; omega)]
  have hm : (Int.toNat (max (k : Int) (xs.length : Int))) = xs.length := by omega
  have hx : xs.toArray.extract 0 (Int.toNat (k : Int)) ++ #[] ++ xs.toArray.extract (Int.toNat (max (k : Int) (xs.length : Int))) xs.toArray.size = (xs.take k).toArray := by rw [hm]; simp
  have hf : ∃ n', Obj.mapSeq (fun ys : Array Value => ys.extract 0 (Int.toNat (k : Int)) ++ #[] ++ ys.extract (Int.toNat (max (k : Int) (xs.length : Int))) ys.size) (rowO d xs.toArray n) = rowO d (xs.take k).toArray n' := by
    refine ⟨if (xs.take k).toArray.size == xs.toArray.size then n else n + 1, ?_⟩
    unfold Obj.mapSeq
    dsimp only
    rw [hx]
  obtain ⟨n', hf⟩ := hf
  show wpAny _ _ (updateSeq r _ >>= fun _ => _) _ _ s
  refine wpAny_bind (wpAny_updateSeq h1 rfl ?_ ?hz ?hz')
  case hz => rw [sizeLine_eq]; simp; omega
  case hz' => rw [hx, sizeLine_eq]; simp; omega
  exact wpAny_bind (wpAny_letGo (wpAny_pure ⟨_, rfl, wpAny_pure (h _ (Heap.SameBut.update ..) ⟨_, by rw [Heap.get?_update_self _ h1 (by rw [hf]; rfl), hf]⟩)⟩))
end
end

section
open PySem PySem.W PyProof.Rows PySem.Calls
abbrev sliceO (k : Int) (t : Tok) : Obj := { cls := .type "slice", data := .fields #[.int k t, .none, .none] }
section
variable {prog : Program} {w : World} {A : Around} {E : Value → Shared → Prop} {s : Shared} {K : Frag} {r : Addr}
theorem eval_slice_from {env : Env} {lower : Expr} {p : Pos} {k : Int} {t : Tok} {Q : Value → Shared → Prop} (hel : ∀ Q' : Value → Shared → Prop, Q' (.int k t) s → wpAny (model prog w) A (eval lower env) Q' E s)
    (h : Q (.ref s.heap.objs.size) { s with heap := s.heap.push (sliceO k t) }) : wpAny (model prog w) A (eval (.Slice (some lower) none none p) env) Q E s := by
  refine wpAny_Slice ?_
  rw [evalPart_some]
  refine hel _ ?_
  rw [evalPart_none]
  exact wpAny_pure (wpAny_pure h)
theorem getPy_row {d : Addr} {its : Array Value} {n : Nat} {odO : Obj} {Q : Bool → Shared → Prop} (KF : KFacts K) (X : K.In s.heap) (h1 : s.heap.get? r = some (rowO d its n)) (h2 : s.heap.get? d = some odO) (h : Q false s) : wpAny (model prog w) A (getitemInPython (.ref r)) Q E s := by
  have I := row_inst h1 h2
  unfold getitemInPython specialOf
  refine wpAny_bind (wpAny_bind (I.type.here ((looks_findIn X KF.gi).here ?_)))
  exact wpAny_pure h
theorem subscript_row {env : Env} {x : Str} {xp : Pos} {lower : Expr} {p pos : Pos} {d : Addr} {xs : List Value} {n k : Nat} {t : Tok} {odO : Obj} {Q : Value → Shared → Prop} (KF : KFacts K) (X : K.In s.heap) (h1 : s.heap.get? r = some (rowO d xs.toArray n)) (h2 : s.heap.get? d = some odO)
    (hk : k ≤ xs.length) (hlen : xs.length ≤ 1000) (hev : ∀ Q' : Value → Shared → Prop, Q' (.ref r) s → wpAny (model prog w) A (eval (.Name x xp) env) Q' E s)
    (hel : ∀ Q' : Value → Shared → Prop, Q' (.int k t) s → wpAny (model prog w) A (eval lower env) Q' E s)
    (h : Q (.ref (s.heap.push (sliceO k t)).objs.size) { s with heap := (s.heap.push (sliceO k t)).push { cls := .type "list", data := .seq (xs.drop k).toArray } }) :
    wpAny (model prog w) A (eval (.Subscript (.Name x xp) (.Slice (some lower) none none p) pos) env) Q E s := by
  have up : ∀ b o, s.heap.get? b = some o → (s.heap.push (sliceO k t)).get? b = some o := fun b o e => Heap.get?_push_of_some _ e
  rw [eval_Subscript]
  refine wpAny_bind (hev _ (wpAny_bind (wpAny_holding (eval_slice_from hel (wpAny_bind (wpAny_standAt (wpAny_bind (getPy_row KF (X.keeps up) (up _ _ h1) (up _ _ h2) (wpAny_bind ?_)))))))))
  show wpAny _ _ (operate _ (getItem _ _)) _ _ _
  exact wpAny_operating (getItem_row KF (X.keeps up) (up _ _ h1) (up _ _ h2) (Heap.IsSliceOf.new ..) hk hlen (wpAny_bind (wpAny_of_eq (a := ()) (by rfl) (wpAny_pure h))))
theorem assign_row {env : Env} {x : Str} {xp : Pos} {lower : Expr} {p pos : Pos} {d v : Addr} {xs : List Value} {n k nv : Nat} {t : Tok} {odO : Obj} {Q : Unit → Shared → Prop} (KF : KFacts K) (X : K.In s.heap) (h1 : s.heap.get? r = some (rowO d xs.toArray n)) (h2 : s.heap.get? d = some odO)
    (hv : s.heap.get? v = some (W.listOf #[] nv)) (hne : v ≠ r) (hk : k ≤ xs.length) (hlen : xs.length ≤ 1000) (hev : ∀ Q' : Value → Shared → Prop, Q' (.ref r) s → wpAny (model prog w) A (eval (.Name x xp) env) Q' E s)
    (hel : ∀ Q' : Value → Shared → Prop, Q' (.int k t) s → wpAny (model prog w) A (eval lower env) Q' E s)
    (h : ∀ h', Heap.SameBut r (s.heap.push (sliceO k t)) h' → (∃ n', h'.get? r = some (rowO d (xs.take k).toArray n')) → Q () { s with heap := h' }) :
    wpAny (model prog w) A (assign (.Subscript (.Name x xp) (.Slice (some lower) none none p) pos) env (.ref v)) Q E s := by
  have up : ∀ b o, s.heap.get? b = some o → (s.heap.push (sliceO k t)).get? b = some o := fun b o e => Heap.get?_push_of_some _ e
  unfold assign
  refine wpAny_bind (wpAny_holding (hev _ (wpAny_bind (wpAny_holding (eval_slice_from hel (wpAny_bind (wpAny_standAt (wpAny_bind (wpAny_holding ?_)))))))))
  refine setItem_row KF (X.keeps up) (up _ _ h1) (up _ _ h2) (Heap.IsSliceOf.new ..) (up _ _ hv) hne hk hlen fun h' sb hr => ?_
  exact wpAny_release (h h' sb hr)
end
section
local macro_rules | `(tactic| walk_at "eval Subscript") => `(tactic| refine stop_here ?_)
local macro_rules | `(tactic| walk_at "assign Subscript") => `(tactic| refine stop_here ?_)
theorem pop_c (w : World) (r d : Addr) (xs : List Value) (n k : Nat) (t : Tok) (od : Obj) (s : Shared)
    (h1 : s.heap.get? r = some (rowO d xs.toArray n)) (h2 : s.heap.get? d = some od) (hdr : d ≠ r) (hlen : xs.length ≤ 100) (hkl : k ≤ xs.length) :
  ∀ (mean : ExcName → Option Value) (mg mb : Str → Option Value) (cn : Str) (cs : Scope) (a : Addr) (ccd : Value) (base h₀ : Heap) (L : Addr) (m : Str → Option Value) (Q E : Value → Shared → Prop),
    Below callerA base [] h₀ → Fr h₀ L s.heap m → (hd.heap_39 w.params).In h₀ → News h₀ L s.heap [(r, rowO d xs.toArray n)] → Top topProg LT mean mg mb h₀ → cs.kind = .function →
    (∀ P n' h' tk', s.heap.get? P = none → h'.get? P = some (W.listOf (xs.drop k).toArray 0) → h'.get? r = some (rowO d (xs.take k).toArray n') → (∀ b o, b ≠ r → s.heap.get? b = some o → h'.get? b = some o) → Q (.ref P) { s with heap := h', toks := tk' }) →
      wpAny (model PG w) (callerA.deeper (envOf cn cs L a ccd)) (call (.ref 53) [.ref r, .int k t]) Q E s := by
  have _mark : PySem.Challenge.rw_wo0022_01 = PySem.Challenge.rw_wo0022_01 ∧ hd.heap_39 = hd.heap_39 := ⟨rfl, rfl⟩
  revert _mark
  k_fill
  intro _
  intro mean mg mb cn cs a ccd base h₀ L m Q E B F X N T hk hret
  refine wpAny_call ?_
  k_dflt (refine' code_defG ?k1 ?k2 ?k3 ?k4 ?k5 ?kA ?kF ?kK ?k6 ?k7 ?k8 ?k9 ?kB ?_ ?c2 ?c3 ?c4 ?c5; (case kA => exact rfl); (case kF => exact rfl); (case kK => assumption); (case k1 => k_asm); (case k2 => k_asm); (case k3 => k_asm); (case k4 => k_asm); (case k5 => k_asm); (case k6 => k_is); (case k7 => k_is); (case k8 => ktr_room); (case k9 => exact binds_K (by k_in) rfl (by k_is) rfl rfl rfl); (case c5 => decide); (case kB => exact locs rfl); (case c2 => exact rfl); (case c3 => exact rfl); (case c4 => exact rfl); k_whole; intro g' L' h' FG' F' N' B' X' T' GS'; (try dsimp only); (try k_fold))
  have F2 : Fr g' L' h' (fun y' => List.lookup y' [(Str.ofString "i", Value.int k t), (Str.ofString "self", Value.ref r)]) := F'
  clear F'
  have hold : ∀ b o, b ≠ r → s.heap.get? b = some o → g'.get? b = some o := fun b o hb e => GS' b o e (by simpa using hb)
  k_steps
  refine Stop.mk ?_
  have hd' : h'.get? d = some od := F2.keep _ _ (hold _ _ hdr h2)
  have NR := N' _ List.mem_cons_self
  refine subscript_row (kf w) (X'.keeps F2.keep) NR.1 hd' hkl (by omega) (fun Q' hq => wpAny_Name (wpAny_loadName_local rfl rfl F2.ns rfl hq)) (fun Q' hq => wpAny_Name (wpAny_loadName_local rfl rfl F2.ns rfl hq)) ?_
  have F3 := (F2.push (sliceO k t)).push { cls := .type "list", data := .seq (xs.drop k).toArray }
  have N3 := (N'.push F2 (sliceO k t)).push (F2.push (sliceO k t)) { cls := .type "list", data := .seq (xs.drop k).toArray }
  generalize hPe : (h'.push (sliceO k t)).objs.size = P at N3 ⊢
  have hPr : r < P := by rw [← hPe, Heap.size_push]; exact Nat.lt_succ_of_lt (Heap.lt_size NR.1)
  generalize ((h'.push (sliceO k t)).push { cls := .type "list", data := .seq (xs.drop k).toArray }) = h3 at N3 F3 ⊢
  have N3' : News g' L' h3 [(P, W.listOf (xs.drop k).toArray 0), (r, rowO d xs.toArray n)] := fun p hp => by
    simp only [List.mem_cons, List.not_mem_nil, or_false] at hp
    rcases hp with rfl | rfl
    · exact N3 _ List.mem_cons_self
    · exact N3 _ (List.mem_cons_of_mem _ (List.mem_cons_of_mem _ List.mem_cons_self))
  have hN2 := (N' _ List.mem_cons_self).2
  clear N3 N' F2 NR hPe hd'
  k_steps
  rename Fr g' _ _ _ => F4
  rename News g' _ _ _ => N4
  rename_i hA v hB l4
  have up : ∀ b o, hB.get? b = some o → (hB.push (sliceO k t)).get? b = some o := fun b o e => Heap.get?_push_of_some _ e
  have NV := N4 _ List.mem_cons_self
  have NP := N4 _ (List.mem_cons_of_mem _ List.mem_cons_self)
  have NR := N4 _ (List.mem_cons_of_mem _ (List.mem_cons_of_mem _ List.mem_cons_self))
  refine setItem_row (kf w) (X'.keeps fun b o e => up _ _ (F4.keep b o e)) (up _ _ NR.1) (up _ _ (F4.keep _ _ (hold _ _ hdr h2))) (Heap.IsSliceOf.new ..) (up _ _ NV.1) (Nat.ne_of_gt l4.2) hkl (by omega) (fun h6 sb hr6 => ?_)
  obtain ⟨n6, hr6⟩ := hr6
  have F6 := (F4.push (sliceO k t)).change sb NR.2.1 NR.2.2
  have N6 : News g' L' h6 [(P, W.listOf (xs.drop k).toArray 0), (r, rowO d (xs.take k).toArray n6)] := fun p hp => by
    simp only [List.mem_cons, List.not_mem_nil, or_false] at hp
    rcases hp with rfl | rfl
    · exact ⟨sb.extBut _ _ (Nat.ne_of_gt hPr) (up _ _ NP.1), NP.2⟩
    · exact ⟨hr6, NR.2⟩
  clear F4 N4
  k_steps
  rename Fr g' _ _ _ => F7
  rename News g' _ _ _ => N7
  refine hret P n6 _ _ ?_ (N7 _ List.mem_cons_self).1 (N7 _ (List.mem_cons_of_mem _ List.mem_cons_self)).1 fun b o hb e => F7.keep b o (hold b o hb e)
  cases e : s.heap.get? P with
  | none => rfl
  | some o =>
    have := hold P o (Nat.ne_of_gt hPr) e
    rw [NP.2.2] at this; cases this
end
end

section
open PySem PySem.W PyProof.Rows PySem.Calls
theorem slot_wd_get : Slot "wrapper_descriptor" "__get__" "wrapper_descriptor.__get__" := .of (owner := "wrapper_descriptor") (n := "__get__") (by rw [typeLookup_type, builtinLookup_eq_fast]; kernel_rfl) (by decide +kernel) (by decide +kernel) (by decide +kernel)
  (by first | exact .inl (by decide +kernel) | exact .inr (by decide +kernel)) (by rw [isSubtype_type]; kernel_rfl)
theorem entry_wd_get : entryFor table "wrapper_descriptor.__get__" = some Builtin.«wrapper_descriptor.__get__» := entryFor_of_tree (by kernel_rfl)
theorem args_wd_get (a b c : Value) : argsOk "wrapper_descriptor.__get__" ⟨[a, b, c], []⟩ := by unfold argsOk; kernel_rfl
theorem type_len : typeOf (.builtin "list.__len__") = pure (.type "wrapper_descriptor") := by show builtinType _ = _; rw [builtinType_eq_fast]; kernel_rfl
theorem type_init : typeOf (.builtin "list.__init__") = pure (.type "wrapper_descriptor") := by show builtinType _ = _; rw [builtinType_eq_fast]; kernel_rfl
section
variable {prog : Program} {w : World} {A : Around} {E : Value → Shared → Prop} {s : Shared}
theorem wd_run {id : String} (hid : id = "list.__len__" ∨ id = "list.__init__") {x c : Addr} {R : Fin → Shared → Prop} (hi : Looks (model prog w) s.heap (isInstance (.ref x) (.type "list")) true)
    (h : R (.done (.ret (.ref s.heap.objs.size))) { s with heap := s.heap.push { cls := .type "method-wrapper", data := .fields #[.builtin id, .ref x] } }) :
    wpAny (model prog w) A (Builtin.«wrapper_descriptor.__get__» ⟨[.builtin id, .ref x, .ref c], []⟩) R E s := by
  unfold Builtin.«wrapper_descriptor.__get__»
  refine wpAny_bind (wpAny_of_eq (a := (.builtin id, some (.ref x), some (.ref c))) (by rfl) ?_)
  dsimp only
  refine wpAny_bind (wpAny_bind ?_)
  rcases hid with rfl | rfl
  · refine wpAny_of_eq (a := (Str.ofString "__len__", .type "list")) (by kernel_rfl) ?_
    dsimp only
    refine wpAny_bind (hi.here ?_)
    rw [if_neg (by decide)]
    exact wpAny_pure (wpAny_bind (wpAny_newObj_type (wpAny_pure h)))
  · refine wpAny_of_eq (a := (Str.ofString "__init__", .type "list")) (by kernel_rfl) ?_
    dsimp only
    refine wpAny_bind (hi.here ?_)
    rw [if_neg (by decide)]
    exact wpAny_pure (wpAny_bind (wpAny_newObj_type (wpAny_pure h)))
abbrev wrapO (id : String) (x : Addr) : Obj := { cls := .type "method-wrapper", data := .fields #[.builtin id, .ref x] }
variable {h : Heap} {g : Array GenState} {d : Drawn} {t : Nat} {os : OsState}
theorem super_ga {so D x C : Addr} {l₀ : List Value} {K : Frag} {name : Str} {id : String} {tk : Tok} {Q : PySem.Fin → Shared → Prop} (hid : id = "list.__len__" ∨ id = "list.__init__") (hiT : typeOf (.builtin id) = pure (.type "wrapper_descriptor"))
    (hso : h.get? so = some (ks_superObj D x C)) (hno : Looks (model prog w) h (opaqueClassAbove (.ref C)) none) (hC : Looks (model prog w) h (mroOf (.ref C)) l₀) (X : K.In h)
    (hf : alongIn K name ((l₀.dropWhile (· != .ref D)).drop 1) = some (some (.builtin id))) (hxC : x ≠ C) (hn : (name == ("__class__" : Str)) = false) (hi : Looks (model prog w) h (isInstance (.ref x) (.type "list")) true)
    (hq : Q (.done (.ret (.ref h.objs.size))) ⟨h.push (wrapO id x), g, d, t, os⟩) :
    wpAny (model prog w) A (Builtin.«super.__getattribute__» ⟨[.ref so, .str name tk], []⟩) Q E ⟨h, g, d, t, os⟩ := by
  have hlk := slot_wd_get.lookup
  have hne : (Value.ref x == Value.ref C) = false := by simp [hxC]
  have hTi : (⟨h, g, d, t, os⟩ : Shared).TypeIs (.builtin id) "wrapper_descriptor" := hiT
  have hdt : (ks_superObj D x C).data = .fields #[.ref D, .ref x, .ref C] := rfl
  have f0 : (#[.ref D, .ref x, .ref C] : Array Value)[0]? = some (.ref D) := rfl
  have f1 : (#[.ref D, .ref x, .ref C] : Array Value)[1]? = some (.ref x) := rfl
  have f2 : (#[.ref D, .ref x, .ref C] : Array Value)[2]? = some (.ref C) := rfl
  unfold Builtin.«super.__getattribute__»
  repeat (first
    | (with_reducible refine wpAny_field hso hdt f0 ?_) | (with_reducible refine wpAny_field hso hdt f1 ?_) | (with_reducible refine wpAny_field hso hdt f2 ?_)
    | (with_reducible refine ks_wpAny_notOpaque hno ?_)
    | (with_reducible refine Looks.at hC ?_)
    | (refine ks_forIn_along X (fun _ _ => rfl) rfl ?_ hf)
    | (with_reducible refine wpAny_typeOf hTi ?_)
    | (with_reducible refine wpAny_call_entry slot_wd_get hTi entry_wd_get ?_ (args_wd_get _ _ _))
    | (with_reducible refine wd_run hid hi ?_)
    | (with_reducible refine ⟨_, rfl, ?_⟩)
    | (simp only [hn, hne, Bool.or_false, Bool.false_eq_true, if_false])
    | wp_step
    | dsimp only)
  all_goals exact hq
theorem super_method {so D x C : Addr} {l₀ : List Value} {K : Frag} {name : Str} {id : String} {pl : Sem Bool} {Q : Value × List Value → Shared → Prop} (hid : id = "list.__len__" ∨ id = "list.__init__") (hiT : typeOf (.builtin id) = pure (.type "wrapper_descriptor"))
    (hso : h.get? so = some (ks_superObj D x C)) (hno : Looks (model prog w) h (opaqueClassAbove (.ref C)) none) (hC : Looks (model prog w) h (mroOf (.ref C)) l₀) (X : K.In h)
    (hf : alongIn K name ((l₀.dropWhile (· != .ref D)).drop 1) = some (some (.builtin id))) (hxC : x ≠ C) (hn : (name == ("__class__" : Str)) = false) (hi : Looks (model prog w) h (isInstance (.ref x) (.type "list")) true)
    (hq : Q (.ref h.objs.size, []) ⟨h.push (wrapO id x), g, d, t + 1, os⟩) : wpAny (model prog w) A (getMethod (.ref so) name pl) Q E ⟨h, g, d, t, os⟩ := by
  have hT : ∀ t', (⟨h, g, d, t', os⟩ : Shared).TypeIs (.ref so) "super" := fun _ => ⟨_, hso, rfl⟩
  have hgot : wpAny (model prog w) A (call (.builtin "super.__getattribute__") [.ref so, .str name t]) (fun v s' => v = .ref h.objs.size ∧ s' = ⟨h.push (wrapO id x), g, d, t + 1, os⟩) (fun _ _ => False) ⟨h, g, d, t + 1, os⟩ :=
    wpAny_call_entry F.ks_slot_super_ga (hT _) F.ks_entry_super_ga (super_ga hid hiT hso hno hC X hf hxC hn hi ⟨_, rfl, rfl, rfl⟩) (F.ks_gaArgs_super _ _)
  unfold getMethod
  refine wpAny_bind (wpAny_specialOf (hT _) F.ks_slot_super_ga.lookup ?_)
  dsimp only
  rw [if_pos F.ks_canon_super_ga]
  unfold getAttr getAttrBy
  refine wpAny_bind (wpAny_bind (wpAny_mkText (wpAny_holding (wpAny_bind (wpAny_typeOf (hT _) (wpAny_bind (wpAny_of_eq F.ks_slot_super_ga.lookup ?_)))))))
  show wpAny _ _ (getAttrByItsOwn (.ref so) (.str name t) (.type "super") (.builtin "super.__getattribute__") true false) _ _ _
  unfold getAttrByItsOwn hookBefore callGetattribute boundAndCalled
  refine wpAny_bind (wpAny_of_eq (show (if onTheHeap (.type "super") then typeLookup (.type "super") "__getattr__" else pure none) = pure none from rfl) (wpAny_bind (wpAny_attempt (wpAny_holding ?_))))
  show wpAny _ _ (bindSpecial (.builtin "super.__getattribute__") (.ref so) >>= _) _ _ _
  refine wpAny_bind (wpAny_of_eq (F.ks_slot_super_ga.bind _) (wpAny_mono hgot (fun v s' hv => ?_) fun _ _ z => z.elim))
  obtain ⟨rfl, rfl⟩ := hv
  exact wpAny_pure (wpAny_pure hq)
theorem callWith_wrap {s : Shared} {pos : Pos} {q x : Addr} {id : String} {env : Env} {Q : Value → Shared → Prop} (hq : s.heap.get? q = some (wrapO id x)) (h : wpAny (model prog w) A (call (.ref q) []) Q E s) :
    wpAny (model prog w) A (callWith pos (.ref q) [] (backTo pos (starEach [] env)) []) Q E s := by
  unfold callWith
  refine wpAny_bind (wpAny_holding (evalArgs_nil3 (wpAny_bind (wpAny_standAt ?_))))
  refine wpAny_bind (m := keeperOf (.ref q)) ?_
  unfold keeperOf
  refine wpAny_bind (wpAny_load hq ?_)
  refine wpAny_pure ?_
  exact wpAny_bind (wpAny_mono h (fun r s₂ hr => wpAny_bind (wpAny_holding (wpAny_point (wpAny_pure hr)))) fun _ _ x => x)
theorem call_wrap {s : Shared} {q x : Addr} {id : String} {b : Builtin} {Q : Value → Shared → Prop} (hq : s.heap.get? q = some (wrapO id x)) (hp : plainId id = true) (hb : entryFor table id = some b) (hchk : checkBoundCall id ⟨[.ref x], []⟩ = pure ())
    (hc : wpAny (model prog w) A.in1 (b ⟨[.ref x], []⟩) (fun fin s' => ∃ v, fin = .done (.ret v) ∧ Q v s') E s) : wpAny (model prog w) A (call (.ref q) []) Q E s := by
  refine wpAny_call (codeAny_of_tree ?_)
  show wpAny _ A.in1 (callAny (.ref q) ⟨[], []⟩) _ _ _
  unfold callAny
  refine wpAny_bind (wpAny_load hq ?_)
  dsimp only
  rw [if_pos (by decide)]
  refine wpAny_bind (wpAny_of_eq hchk (wpAny_pure ⟨plainId_quiet hp _, codeAny_builtin hb ?_⟩))
  rw [Around.under_plainId hp _]
  refine wpAny_mono hc (fun fin s' h' => ?_) fun _ _ h' => h'
  obtain ⟨v, rfl, hv⟩ := h'; exact hv
theorem chk_len (x : Addr) : checkBoundCall "list.__len__" ⟨[.ref x], []⟩ = pure () := by kernel_rfl
theorem chk_init (x : Addr) : checkBoundCall "list.__init__" ⟨[.ref x], []⟩ = pure () := by kernel_rfl
end
end

section
open PySem PySem.W PyProof.Rows PySem.Calls
section
variable {prog : Program} {w : World} {A₀ A : Around} {s : Shared} {base h₀ : Heap} {outer : List Env} {L : Addr} {m mg mb : Str → Option Value} {env : Env} {news : List (Addr × Obj)} {K : Frag} {p : Program} {loose : List Str} {mean : ExcName → Option Value}
  {R : Result → Shared → Prop} {name qual : Str} {params : Arguments} {body : List Stmt} {scope : Scope} {dV kV doc pm cdv ct oc : Value} {an od : Option Addr} {osl : Array (Option Value)} {f cc : Addr} {args : Args} {binds : List (Str × Value)}
/-- a method that says super(), entered; what the base keeps is told too -/
theorem code_superG (B : Below A₀ base outer h₀) (F : Fr h₀ L s.heap m) (X₀ : K.In h₀) (N : News h₀ L s.heap news) (T : Top p loose mean mg mb h₀) (hA : A.frames = some (env :: outer)) (hf : env.frame = some L) (hke : env.scope.kind = .function)
    (ho : K.lookup f = some ⟨oc, od, .func (ksFn name qual params body scope dV kV doc pm an cdv ct cc), osl⟩) (hcd : codeIn K cdv qual = true) (hroom : A.depth < recursionLimit)
    (hbind : BindsTo s (ksFn name qual params body scope dV kV doc pm an cdv ct cc) args binds) (hloc : ∀ y ∈ binds, scope.names.lookup y.1 = some .local)
    (h : ∀ g L' h₁, Fr h₀ L g m → Fr g L' h₁ (fun y => binds.reverse.lookup y) → News g L' h₁ news → Below A base (env :: outer) g → K.In g → Top p loose mean mg mb g → GSub s.heap g (news.map (·.1)) →
      _root_.PySem.wpAt (model prog w) (A.deeper (ksEnv qual scope L' f cdv cc)) (.func body (ksEnv qual scope L' f cdv cc)) (execs body (ksEnv qual scope L' f cdv cc))
        (fun fl s' => LeaveK h₀ L m g R (match fl with | .ret v => v | _ => .none) s')
        (fun e s' => wpAny (model prog w) (A.deeper (ksEnv qual scope L' f cdv cc)) (leaving (ksEnv qual scope L' f cdv cc) e) (fun _ s'' => R (.error e) s'') (fun e' s'' => R (.error e') s'') s')
        { s with heap := h₁, toks := s.toks + binds.length })
    (hcell : ∀ x ∈ scope.names, x.2 ≠ .cell) (hco : scope.isCoroutine = false) (hgen : scope.isGenerator = false) (hk : scope.kind = .function) : codeAny (model prog w) A (.call (.ref f) args) R s := by
  obtain ⟨FG, BG, st, lv⟩ := groundX (R := R) B F N hA hf hke
  refine ks_codeAny_call_defAt (fd := ksFn name qual params body scope dV kV doc pm an cdv ct cc) (body := body) (binds := binds) hroom ((X₀.keeps F.keep) _ _ ho) rfl (T.nolimit.keeps F.keep) (codeRec_of (X₀.keeps F.keep) hcd) rfl hbind hcell hloc (fun h₁ hns hk₁ => ?_) hco hgen hk
  refine ks_wpAt_mono (h _ s.heap.objs.size h₁ FG ⟨hns, fun b o e => hk₁ b o (of_hideAll _ e), Nat.le_of_eq (hideAll_size _ _)⟩ (fun p hp => ⟨hk₁ _ _ (N p hp).1, Nat.ne_of_lt (Heap.lt_size (N p hp).1), hideAll_none _ (List.mem_map_of_mem hp)⟩) BG (X₀.keeps st) (T.keeps st)
    (fun b o e n => hideAll_get _ e n)) (fun fl s' hl => lv _ _ hl) fun _ _ y => y
end
theorem kmro (w : World) : (clsIn (hd.heap_39 w.params) 100).map (·.mro) = some [.ref 100, .type "list", .type "object"] := by kernel_rfl
theorem looks_mro {M : Model} {h : Heap} {w : World} (X : (hd.heap_39 w.params).In h) : Looks M h (mroOf (.ref 100)) [.ref 100, .type "list", .type "object"] := by
  obtain ⟨cd, hc, e⟩ := Option.map_eq_some_iff.mp (kmro w)
  rw [← e]
  exact fun A Q E s k q => wpAny_bind ((looks_clsIn X hc) A _ E s k (wpAny_pure q))
theorem drop_mro : (([.ref 100, .type "list", .type "object"] : List Value).dropWhile (· != .ref 100)).drop 1 = [.type "list", .type "object"] := by decide +kernel
section
local macro_rules | `(tactic| walk_at "getMethod ref") => `(tactic| refine stop_here ?_)
local macro_rules | `(tactic| walk_at "last getMethod ref") => `(tactic| refine stop_here ?_)
local macro_rules | `(tactic| walk_at "wpAt") => `(tactic| refine stop_here ?_)
theorem count_c (w : World) (r d : Addr) (its : Array Value) (n : Nat) (od : Obj) (s : Shared)
    (h1 : s.heap.get? r = some (rowO d its n)) (h2 : s.heap.get? d = some od) (hr100 : r ≠ 100) (hlen : its.size ≤ 1000) :
  ∀ (mean : ExcName → Option Value) (mg mb : Str → Option Value) (cn : Str) (cs : Scope) (a : Addr) (ccd : Value) (base h₀ : Heap) (L : Addr) (m : Str → Option Value) (Q E : Value → Shared → Prop),
    Below callerA base [] h₀ → Fr h₀ L s.heap m → (hd.heap_39 w.params).In h₀ → News h₀ L s.heap [] → Top topProg LT mean mg mb h₀ → cs.kind = .function →
    (∀ t h' tk', InElt s.heap h' → Q (.int its.size t) { s with heap := h', toks := tk' }) →
      wpAny (model PG w) (callerA.deeper (envOf cn cs L a ccd)) (call (.ref 97) [.ref r]) Q E s := by
  have _mark : PySem.Challenge.rw_wo0022_01 = PySem.Challenge.rw_wo0022_01 ∧ hd.heap_39 = hd.heap_39 := ⟨rfl, rfl⟩
  revert _mark
  k_fill
  intro _
  intro mean mg mb cn cs a ccd base h₀ L m Q E B F X N T hk hret
  refine wpAny_call ?_
  k_dflt (refine' code_superG ?k1 ?k2 ?k3 ?k4 ?k5 ?kA ?kF ?kK ?k6 ?k7 ?k8 ?k9 ?kB ?_ ?c5 ?c2 ?c3 ?c4; (case kA => exact rfl); (case kF => exact rfl); (case kK => assumption); (case k1 => k_asm); (case k2 => k_asm); (case k3 => k_asm); (case k4 => k_asm); (case k5 => k_asm); (case k6 => k_is); (case k7 => k_is); (case k8 => ktr_room); (case k9 => exact BindsTo.of_eq rfl); (case c5 => decide); (case kB => exact locs rfl); (case c2 => exact rfl); (case c3 => exact rfl); (case c4 => exact rfl); intro g' L' h' FG' F' N' B' X' T' GS'; (try dsimp only); (try k_fold))
  have F2 : Fr g' L' h' (fun y' => List.lookup y' [(Str.ofString "self", Value.ref r)]) := F'
  clear F'
  have hold : ∀ b o, s.heap.get? b = some o → g'.get? b = some o := fun b o e => GS' b o e (fun q => nomatch q)
  refine ks_wpAt_execs_cons (ks_wpAt_Return_some (ks_wpAt_MethodCall ?_))
  have I : InstAt h' r (rowO d its n) 100 (some od) := row_inst (F2.keep _ _ (hold _ _ h1)) (F2.keep _ _ (hold _ _ h2))
  refine ks_node (by k_asm) (by k_asm) (by k_asm) (by k_asm) (by k_is) (by rfl) (by rfl) I (by k_is) (by rfl) (by first | rfl | decide +kernel) (by k_is) (by k_is) (by k_is) (by k_is) (by decide) (by rfl) (by rfl) (by rfl) (by rfl) (by decide +kernel) (by first | boot_by_name | rfl | kernel_rfl) ?_
  intro so h5 F5 N5 l5
  have K5 := X'.keeps F5.keep
  have I5 : InstAt h5 r (rowO d its n) 100 (some od) := row_inst (F5.keep _ _ (hold _ _ h1)) (F5.keep _ _ (hold _ _ h2))
  refine super_method (.inl rfl) type_len (N5 _ List.mem_cons_self).1 (looks_opaque K5 (kf w).tp) (looks_mro K5) K5 (by rw [drop_mro]; exact (kf w).alen) hr100 (by decide) (I5.type.andThen (looks_mroIn K5 (kf w).mlist)) ?_
  dsimp only
  refine callWith_wrap (Heap.get?_push_at rfl rfl) (call_wrap (Heap.get?_push_at rfl rfl) (by decide +kernel) entry_list_len (chk_len r) ?_)
  have hr5 := Heap.get?_push_of_some (wrapO "list.__len__" r) I5.at_
  show wpAny _ _ (seqSize r >>= fun n => retInt n) _ _ _
  refine wpAny_bind (m := seqSize r) ?_
  unfold seqSize
  refine wpAny_bind (wpAny_loadPart hr5 ?_)
  refine wpAny_pure ?_
  show wpAny _ _ (mkInt _ >>= fun v => ret v) _ _ _
  refine wpAny_bind (wpAny_mkInt (wpAny_pure ⟨_, rfl, ?_⟩))
  have N6 := N5.push F5 (wrapO "list.__len__" r)
  have F6 := F5.push (wrapO "list.__len__" r)
  clear N' F5 N5
  k_steps
  exact hret _ _ _ (fun b o e => F6.keep b o (hold b o e))
end
end

section
open PySem PySem.W PyProof.Rows PySem.Calls
def madeIn (K : Frag) (C : Addr) : Bool := match K.lookup C with
  | some ⟨_, _, .cls cd, sl⟩ => !cd.hasDel && (sl.toList[4]?).join == some (.builtin "list.__new__") && cd.mro == [.ref C, .type "list", .type "object"]
  | _ => false
theorem madeK (w : World) : madeIn (hd.heap_39 w.params) 100 = true := by kernel_rfl
structure MadeL (M : Model) (h : Heap) : Prop where
  obj : ∃ oc od cd sl, h.get? 100 = some ⟨oc, od, .cls cd, sl⟩ ∧ cd.hasDel = false
  made : Looks M h (Bind.madeBy (.ref 100)) (some "list.__new__")
  base : Looks M h (Bind.staticBase (.ref 100)) (.ref 100)
theorem madeL_of {K : Frag} {M : Model} {h : Heap} (X : K.In h) (hm : Looks M h (mroOf (.ref 100)) [.ref 100, .type "list", .type "object"]) (e : madeIn K 100 = true) : MadeL M h := by
  unfold madeIn at e
  split at e
  · rename_i oc od cd sl ho
    simp only [Bool.and_eq_true, Bool.not_eq_true', beq_iff_eq] at e
    obtain ⟨⟨e1, e2⟩, e3⟩ := e
    have made : Looks M h (Bind.madeBy (.ref 100)) (some "list.__new__") := by
      intro A Q E s k q
      unfold Bind.madeBy
      refine wpAny_bind (hm A _ E s k ?_)
      rw [List.forIn_cons]
      refine wpAny_bind (wpAny_bind (wpAny_bind (wpAny_bind (wpAny_loadPart (k _ _ (X _ _ ho)) (wpAny_pure ?_)))))
      dsimp only
      rw [← Array.getElem?_toList, e2]
      exact wpAny_pure (wpAny_pure (wpAny_pure q))
    refine ⟨⟨oc, od, cd, sl, X _ _ ho, e1⟩, made, ?_⟩
    intro A Q E s k q
    unfold Bind.staticBase
    refine wpAny_bind (hm A _ E s k ?_)
    rw [List.forIn_cons]
    exact wpAny_bind (wpAny_bind (wpAny_bind (made A _ E s k (wpAny_pure (wpAny_pure (wpAny_pure q))))))
  · cases e
theorem kind_ln : builtinKind "list.__new__" = some .builtinFn := by decide +kernel
theorem split_ln : splitId "list.__new__" = some ("list", "__new__") := by decide +kernel
section
variable {prog : Program} {w : World} {A : Around} {R : Result → Shared → Prop} {h : Heap} {g : Array GenState} {d : Drawn} {t : Nat} {os : OsState}
theorem args_ln (v : Value) : argsOk "list.__new__" ⟨[.ref 100, v], []⟩ := by unfold argsOk; kernel_rfl
theorem new_list {v : Value} (Y : MadeL (model prog w) h) (hs : Looks (model prog w) h (isSubtype (.ref 100) (.type "list")) true)
    (hq : R (.ok (.ret (.ref (h.objs.size + 1)))) ⟨(h.push emptyDict).push (rowO h.objs.size #[] 0), g, d, t, os⟩) :
    codeAny (model prog w) A (.call (.builtin "list.__new__") ⟨[.ref 100, v], []⟩) R ⟨h, g, d, t, os⟩ := by
  obtain ⟨⟨oc, od, cd, sl, hC, e1⟩, made, base⟩ := Y
  have hT : Looks (model prog w) h (isType (.ref 100)) true := by
    intro A Q E s k q
    unfold isType loadHead
    exact wpAny_bind (wpAny_loadPart (k _ _ hC) (wpAny_pure q))
  refine codeAny_of_tree ?_
  show wpAny _ A.in1 (do checkBuiltinCall "list.__new__" ⟨[.ref 100, v], []⟩; again (.builtin "list.__new__" ⟨[.ref 100, v], []⟩)) _ _ _
  refine wpAny_bind ?_
  have rest : ∀ {Q : Unit → Shared → Prop} {E : Value → Shared → Prop}, Q () ⟨h, g, d, t, os⟩ → wpAny (model prog w) A.in1 (checkBuiltinCall "list.__new__" ⟨[.ref 100, v], []⟩) Q E ⟨h, g, d, t, os⟩ := by
    intro Q E q
    have ha := args_ln v
    simp only [checkBuiltinCall, kind_ln, split_ln]
    repeat (first | simp only [bne_self_eq_false, Bool.false_eq_true, if_false, Bool.not_true] | lk)
    all_goals exact q
  refine rest ?_
  refine wpAny_pure ⟨plainId_quiet F.plain_list_new _, codeAny_builtin_stack F.entry_list_new rfl fun p st => ?_⟩
  rw [Around.under_plainId F.plain_list_new _]
  have hown := owner_list_new
  simp only [hown]
  refine wpAny_bind (hT.here ?_)
  rw [if_neg (by decide)]
  refine wpAny_bind (hs.here ?_)
  rw [if_neg (by decide)]
  refine wpAny_bind (wpAny_pure ?_)
  rw [if_neg (by decide)]
  refine wpAny_bind (wpAny_newObj_type ?_ (by size_fits))
  dsimp only
  refine wpAny_bind ?_
  have hC' := Heap.get?_push_of_some (rowO h.objs.size #[] 0) (Heap.get?_push_of_some emptyDict hC)
  unfold newObj
  dsimp only
  rw [if_neg (by decide)]
  unfold newObjAsIs classHasDel
  refine wpAny_bind (wpAny_alloc (wpAny_bind (wpAny_bind (wpAny_load hC' (wpAny_pure ?_)))))
  rw [e1]
  refine wpAny_pure (wpAny_pure ?_)
  show R _ _
  rw [Heap.size_push]
  exact hq
theorem make_row {K : Frag} {v : Value} (KF : KFacts K) (X : K.In h) (hm : Looks (model prog w) h (mroOf (.ref 100)) [.ref 100, .type "list", .type "object"]) (hmd : madeIn K 100 = true)
    (hq : codeAny (model prog w) (A.under (.builtin "type.__call__" ⟨[.ref 100, v], []⟩)) (.call (.ref 38) ⟨[.ref (h.objs.size + 1), v], []⟩) (InitBack (h.objs.size + 1) R) ⟨(h.push emptyDict).push (rowO h.objs.size #[] 0), g, d, t, os⟩) :
    codeAny (model prog w) A (.call (.ref 100) ⟨[v], []⟩) R ⟨h, g, d, t, os⟩ := by
  have Y := madeL_of X hm hmd
  have Y' := Y
  obtain ⟨⟨oc, od, cd, sl, hC, e1⟩, made, base⟩ := Y
  have call := looks_specialIn (M := model prog w) X KF.call
  have typ := looks_instIn (M := model prog w) X KF.inst
  have sub := looks_mroIn (M := model prog w) X KF.mlist
  have self := looks_mroIn (M := model prog w) X KF.mself
  have hi := looks_findIn (M := model prog w) X KF.init
  have hb := bind_fn (M := model prog w) X (.ref (h.objs.size + 1)) KF.t38
  refine codeAny_of_tree ?_
  show wpAny _ _ (callAny (.ref 100) _) _ _ _
  refine nd_load hC ?_
  show wpAny _ _ (callAny.viaDunder (.ref 100) _) _ _ _
  unfold callAny.viaDunder
  refine wpAny_bind (call.at ?_)
  dsimp only
  rw [tc_bind]
  refine wpAny_bind (wpAny_pure (wpAny_bind (wpAny_pure ?_)))
  refine wpAny_pure (a := Fin.again (.call (.builtin "type.__call__") ⟨[.ref 100, v], []⟩)) (And.intro rfl ?_)
  refine codeAny_call_builtin_at (Code.quiet_builtin _ (by decide +kernel)) entry_typeCall (check_slot tc_kind tc_split typ (tc_args _ _ _) ?_)
  unfold Builtin.«type.__call__»
  repeat (first | simp only [List.isEmpty_cons, Bool.false_eq_true, if_false] | with_reducible refine wpAny_call ?_ | lk)
  refine new_list Y' sub ?_
  have k : ∀ b o, h.get? b = some o → ((h.push emptyDict).push (rowO h.objs.size #[] 0)).get? b = some o := fun b o e => Heap.get?_push_of_some _ (Heap.get?_push_of_some _ e)
  have hx : ((h.push emptyDict).push (rowO h.objs.size #[] 0)).get? (h.objs.size + 1) = some (rowO h.objs.size #[] 0) := by heap_get
  have t1 : Looks (model prog w) ((h.push emptyDict).push (rowO h.objs.size #[] 0)) (typeOf (.ref (h.objs.size + 1))) (.ref 100) := (Looks.ld hx).andThen .now
  have s1 := self.keeps k
  have i1 := hi.keeps k
  have b1 := hb.keeps k
  unfold isInstance callSpecial? specialOf
  repeat (first | with_reducible refine wpAny_call ?_ | lk)
  refine codeAny_mono hq fun r s' z => ?_
  rcases r with e | (v | _ | _ | _) <;> first | exact z | exact z.elim | skip
  obtain ⟨rfl, z⟩ := z
  exact wpAny_pure (wpAny_pure z)
end
end

section
open PySem PySem.W PyProof.Rows PySem.Calls Builtin Builtin.ObjectAttr
theorem refuse_row (x : Addr) : refuseLoop (.ref x) "__setattr__" [.ref 100, .type "list", .type "object"] = pure () := by
  rw [refuseLoop_ref]
  kernel_rfl
theorem hasD (w : World) : hasDictIn (hd.heap_39 w.params) 100 = true := by kernel_rfl
/-- the object's dict after its one store -/
def dictI (hv : Int) (tk : Tok) (v : Value) : Obj := Obj.putName "_initial_size" hv (.str "_initial_size" tk) v emptyDict
theorem dictI_eq (hv : Int) (tk : Tok) (v : Value) : dictI hv tk v = { cls := .type "dict", data := .dict #[⟨hv, .str "_initial_size" tk, v⟩] 1 } := by
  rfl
theorem dictOk_I (hv : Int) (tk : Tok) (v : Value) : DictOk (dictI hv tk v) := by
  rw [dictI_eq]
  constructor <;> rfl
section
variable {w : World} {A : Around} {s : Shared} {R : Result → Shared → Prop} {E : Value → Shared → Prop}
theorem osa_row {x dx : Addr} {its : Array Value} {n : Nat} {v : Value} {tk : Tok} (X : (hd.heap_39 w.params).In s.heap) (h1 : s.heap.get? x = some (rowO dx its n)) (h2 : s.heap.get? dx = some emptyDict)
    (h : ∀ h', Heap.SameBut dx s.heap h' → (∃ hv, h'.get? dx = some (dictI hv s.toks v)) → R (.ok (.ret .none)) { s with heap := h', toks := s.toks + 1 }) :
    codeAny (model PG w) A (.call (.builtin "object.__setattr__") ⟨[.ref x, .str "_initial_size" tk, v], []⟩) R s := by
  have KF := kf w
  have I := row_inst h1 h2
  have SF := PySem.F.store_object
  have sub : Looks (model PG w) s.heap (isInstance (.ref x) (.type "object")) true := I.type.andThen (looks_mroIn X KF.mobj)
  refine codeAny_call_builtin SF.slot.plain SF.entry (@check_slot (model PG w) _ _ s "object.__setattr__" "object" "__setattr__" (.ref x) [.str "_initial_size" tk, v] [] _ SF.kind SF.split sub (SF.args (.ref x) (.str "_initial_size" tk) v) ?_)
  have hm := looks_mro (M := model PG w) X
  obtain ⟨cd, hc, hd'⟩ := any_some (hasD w)
  rw [osa_eq, refuse_eq]
  refine wpAny_bind (wpAny_bind (I.type.here (wpAny_bind (hm.here ?_))))
  rw [refuse_row]
  refine wpAny_pure (wpAny_bind (I.type.here (wpAny_bind ((looks_findIn X KF.ini).here ?_))))
  refine wpAny_bind (wpAny_pure ?_)
  dsimp only
  refine wpAny_bind (wpAny_pure (wpAny_bind (wpAny_bind (wpAny_loadPart h1 (wpAny_bind ((looks_clsIn X hc).here ?_))))))
  rw [hd']
  refine wpAny_pure (a := some dx) (wpAny_bind (wpAny_pure (wpAny_bind ?_)))
  unfold nsSet
  refine wpAny_bind (wpAny_bind (wpAny_askSetting (wpAny_pure (wpAny_bind (wpAny_mkText (wpAny_bind (wpAny_loadPart h2 ?_)))))))
  dsimp only
  rw [aRefKeyMayBeTheName_at, if_neg (by simp)]
  refine wpAny_updatePart h2 ?_
  have hself : ∀ hv, ((s.heap.update dx (Obj.putName "_initial_size" hv (.str "_initial_size" s.toks) v))).get? dx = some (dictI hv s.toks v) := fun hv => by
    rw [Heap.get?_update_self _ h2 (by rfl)]; rfl
  refine wpAny_bind (wpAny_lookBehind (hself _) (by rw [dictI_eq]; exact pastItsLine_dict (by rw [sizeLine_eq]; show 1 ≤ 16777216 + 1; decide)) ?_)
  exact wpAny_pure (h _ (Heap.SameBut.update ..) ⟨_, hself _⟩)
theorem store_row {x dx : Addr} {its : Array Value} {n : Nat} {v : Value} {Q : Unit → Shared → Prop} (X : (hd.heap_39 w.params).In s.heap) (h1 : s.heap.get? x = some (rowO dx its n)) (h2 : s.heap.get? dx = some emptyDict)
    (h : ∀ h' hv tk, Heap.SameBut dx s.heap h' → h'.get? dx = some (dictI hv tk v) → Q () { s with heap := h', toks := s.toks + 2 }) : wpAny (model PG w) A (setAttr (.ref x) "_initial_size" v) Q E s :=
  set_plain X (row_inst h1 h2) (kf w).sa (osa_row (s := { s with toks := s.toks + 1 }) X h1 h2 fun h' sb e => e.elim fun hv e => h h' hv _ sb e)
end
section
local macro_rules | `(tactic| walk_at "setAttr ref") => `(tactic| refine stop_here ?_)
local macro_rules | `(tactic| walk_at "setAttr") => `(tactic| refine stop_here ?_)
theorem init_c (w : World) (x dx : Addr) (v : Int) (tv : Tok) (s : Shared) (h1 : s.heap.get? x = some (rowO dx #[] 0)) (h2 : s.heap.get? dx = some emptyDict) (hdx : dx < x) :
  ∀ (mean : ExcName → Option Value) (mg mb : Str → Option Value) (cn : Str) (cs : Scope) (a : Addr) (ccd : Value) (base h₀ : Heap) (L : Addr) (m : Str → Option Value) (R : Result → Shared → Prop) (av : Value),
    Below callerA base [] h₀ → Fr h₀ L s.heap m → (hd.heap_39 w.params).In h₀ → News h₀ L s.heap [(x, rowO dx #[] 0), (dx, emptyDict)] → Top topProg LT mean mg mb h₀ → cs.kind = .function → x ≠ 100 →
    (∀ h' tk' n hv tk, h'.get? x = some (rowO dx #[] n) → h'.get? dx = some (dictI hv tk (.int v tv)) → (∀ b o, b ≠ x → b ≠ dx → s.heap.get? b = some o → h'.get? b = some o) → R (.ok (.ret .none)) { s with heap := h', toks := tk' }) →
      codeAny (model PG w) ((callerA.deeper (envOf cn cs L a ccd)).under (.builtin "type.__call__" ⟨[.ref 100, av], []⟩)) (.call (.ref 38) ⟨[.ref x, .int v tv], []⟩) R s := by
  have _mark : PySem.Challenge.rw_wo0022_01 = PySem.Challenge.rw_wo0022_01 ∧ hd.heap_39 = hd.heap_39 := ⟨rfl, rfl⟩
  revert _mark
  k_fill
  intro _
  intro mean mg mb cn cs a ccd base h₀ L m R av B F X N T hk hx100 hret
  k_dflt (refine' code_superG ?k1 ?k2 ?k3 ?k4 ?k5 ?kA ?kF ?kK ?k6 ?k7 ?k8 ?k9 ?kB ?_ ?c5 ?c2 ?c3 ?c4; (case kA => exact rfl); (case kF => exact rfl); (case kK => assumption); (case k1 => k_asm); (case k2 => k_asm); (case k3 => k_asm); (case k4 => k_asm); (case k5 => k_asm); (case k6 => k_is); (case k7 => k_is); (case k8 => k_room); (case k9 => exact binds_K (by k_in) rfl (by k_is) rfl rfl rfl); (case c5 => decide); (case kB => exact locs rfl); (case c2 => exact rfl); (case c3 => exact rfl); (case c4 => exact rfl); intro g' L' h' FG' F' N' B' X' T' GS'; (try dsimp only); (try k_fold))
  have F2 : Fr g' L' h' (fun y' => List.lookup y' [(Str.ofString "initial_size", Value.int v tv), (Str.ofString "self", Value.ref x)]) := F'
  clear F'
  have hold : ∀ b o, b ≠ x → b ≠ dx → s.heap.get? b = some o → g'.get? b = some o := fun b o hb hb2 e => GS' b o e (by simp [hb, hb2])
  have NX := N' _ List.mem_cons_self
  have ND := N' _ (List.mem_cons_of_mem _ List.mem_cons_self)
  refine ks_wpAt_execs_cons (ks_wpAt_Assign_Attr (wpAt_of_wpAny (wpAny_Name (wpAny_loadName_local rfl rfl F2.ns rfl (wpAny_Name (wpAny_loadName_local rfl rfl F2.ns rfl ?_))))))
  refine store_row (X'.keeps F2.keep) NX.1 ND.1 fun h3 hv tk3 sb3 hd3 => ?_
  have F3 := F2.change sb3 ND.2.1 ND.2.2
  have hx3 : h3.get? x = some (rowO dx #[] 0) := sb3.extBut _ _ (Nat.ne_of_gt hdx) NX.1
  have N3 : News g' L' h3 [(x, rowO dx #[] 0), (dx, dictI hv tk3 (.int v tv))] := fun p hp => by
    simp only [List.mem_cons, List.not_mem_nil, or_false] at hp
    rcases hp with rfl | rfl
    · exact ⟨hx3, NX.2⟩
    · exact ⟨hd3, ND.2⟩
  clear N' F2
  dsimp only
  refine ks_wpAt_execs_cons (ks_wpAt_Expr_any (ks_wpAt_MethodCall ?_))
  have I : InstAt h3 x (rowO dx #[] 0) 100 (some (dictI hv tk3 (.int v tv))) := row_inst hx3 hd3
  refine ks_node (by k_asm) (by k_asm) (by k_asm) (by k_asm) (by k_is) (by rfl) (by rfl) I (by k_is) (by rfl) (by first | rfl | decide +kernel) (by k_is) (by k_is) (by k_is) (by k_is) (by decide) (by rfl) (by rfl) (by rfl) (by rfl) (by decide +kernel) (by first | boot_by_name | rfl | kernel_rfl) ?_
  intro so h5 F5 N5 l5
  have K5 := X'.keeps F5.keep
  have NX5 := N5 _ (List.mem_cons_of_mem _ List.mem_cons_self)
  have ND5 := N5 _ (List.mem_cons_of_mem _ (List.mem_cons_of_mem _ List.mem_cons_self))
  have I5 : InstAt h5 x (rowO dx #[] 0) 100 (some (dictI hv tk3 (.int v tv))) := row_inst NX5.1 ND5.1
  refine super_method (.inr rfl) type_init (N5 _ List.mem_cons_self).1 (looks_opaque K5 (kf w).tp) (looks_mro K5) K5 (by rw [drop_mro]; exact (kf w).ainit) hx100 (by decide) (I5.type.andThen (looks_mroIn K5 (kf w).mlist)) ?_
  dsimp only
  refine callWith_wrap (Heap.get?_push_at rfl rfl) (call_wrap (Heap.get?_push_at rfl rfl) (by decide +kernel) PySem.F.entry_list_init (chk_init x) ?_)
  have hx5 := Heap.get?_push_of_some (wrapO "list.__init__" x) NX5.1
  have N6 := N5.push F5 (wrapO "list.__init__" x)
  have F6 := F5.push (wrapO "list.__init__" x)
  show wpAny _ _ (do let old ← Builtin.List.listItems (.ref x); Builtin.List.listUpdate (.ref x) (fun _ => #[]); letGo old.toList.reverse; ret .none) _ _ _
  refine wpAny_bind (listItems_seq hx5 rfl ?_)
  show wpAny _ _ (updateSeq x (fun _ => #[]) >>= fun _ => letGo (#[] : Array Value).toList.reverse >>= fun _ => ret .none) _ _ _
  refine wpAny_bind (wpAny_updateSeq hx5 rfl ?_)
  refine wpAny_bind (wpAny_letGo (wpAny_pure ⟨_, rfl, ?_⟩))
  have sb7 : Heap.SameBut x (h5.push (wrapO "list.__init__" x)) ((h5.push (wrapO "list.__init__" x)).update x (Obj.mapSeq fun _ => #[])) := Heap.SameBut.update ..
  have hx7 : ((h5.push (wrapO "list.__init__" x)).update x (Obj.mapSeq fun _ => #[])).get? x = some (rowO dx #[] 0) := by rw [Heap.get?_update_self _ hx5 (by rfl)]; rfl
  generalize (h5.push (wrapO "list.__init__" x)).update x (Obj.mapSeq fun _ => #[]) = h7 at sb7 hx7 ⊢
  have F7 := F6.change sb7 NX5.2.1 NX5.2.2
  have ND7 := sb7.extBut _ _ (Nat.ne_of_lt hdx) (Heap.get?_push_of_some (wrapO "list.__init__" x) ND5.1)
  have N7 : News g' L' h7 [(x, rowO dx #[] 0), (dx, dictI hv tk3 (.int v tv))] := fun p hp => by
    simp only [List.mem_cons, List.not_mem_nil, or_false] at hp
    rcases hp with rfl | rfl
    · exact ⟨hx7, NX5.2⟩
    · exact ⟨ND7, ND5.2⟩
  clear N3 F3 F5 N5 N6 F6
  k_steps
  exact hret _ _ 0 hv tk3 hx7 ND7 fun b o hb hb2 e => F7.keep b o (hold b o hb hb2 e)
end
end

section
open PySem PySem.W PyProof.Rows PySem.Calls
theorem make_c (w : World) (v : Int) (tv : Tok) (s : Shared) (mean : ExcName → Option Value) (mg mb : Str → Option Value) (cn : Str) (cs : Scope) (a : Addr) (ccd : Value) (base h₀ : Heap) (L : Addr) (m : Str → Option Value) (Q E : Value → Shared → Prop)
    (B : Below callerA base [] h₀) (F : Fr h₀ L s.heap m) (X : (hd.heap_39 w.params).In h₀) (N : News h₀ L s.heap []) (T : Top topProg LT mean mg mb h₀) (hk : cs.kind = .function)
    (hret : ∀ x dx h' tk' n hv tk, s.heap.get? x = none → s.heap.get? dx = none → dx < x → h'.get? x = some (rowO dx #[] n) → h'.get? dx = some (dictI hv tk (.int v tv)) → InElt s.heap h' → Q (.ref x) { s with heap := h', toks := tk' }) :
      wpAny (model PG w) (callerA.deeper (envOf cn cs L a ccd)) (call (.ref 100) [.int v tv]) Q E s := by
  obtain ⟨h, g, d, t, os⟩ := s
  have Xs := X.keeps F.keep
  refine wpAny_call (make_row (kf w) Xs (looks_mro Xs) (madeK w) ?_)
  have N' := (N.push F emptyDict).push (F.push _) (rowO h.objs.size #[] 0)
  have F' := (F.push emptyDict).push (rowO h.objs.size #[] 0)
  rw [Heap.size_push] at N'
  have h100 : 100 < h.objs.size := by
    obtain ⟨_, _, cd, _, hC, _⟩ := (madeL_of (M := model PG w) Xs (looks_mro Xs) (madeK w)).obj
    exact Heap.lt_size hC
  have k : ∀ b o, h.get? b = some o → ((h.push emptyDict).push (rowO h.objs.size #[] 0)).get? b = some o := fun b o e => Heap.get?_push_of_some _ (Heap.get?_push_of_some _ e)
  have fresh : ∀ b, h.objs.size ≤ b → h.get? b = none := fun b hb => by
    cases e : h.get? b with
    | none => rfl
    | some o => exact absurd (Heap.lt_size e) (Nat.not_lt.mpr hb)
  refine init_c w (h.objs.size + 1) h.objs.size v tv ⟨(h.push emptyDict).push (rowO h.objs.size #[] 0), g, d, t, os⟩ (N' _ List.mem_cons_self).1 (N' _ (List.mem_cons_of_mem _ List.mem_cons_self)).1 (Nat.lt_succ_self _) mean mg mb cn cs a ccd base h₀ L m _ _ B F' X N' T hk (Nat.ne_of_gt (Nat.lt_succ_of_lt h100)) ?_
  intro h' tk' n hv tk hx hdx hkp
  exact ⟨rfl, hret _ _ h' tk' n hv tk (fresh _ (Nat.le_succ _)) (fresh _ (Nat.le_refl _)) (Nat.lt_succ_self _) hx hdx fun b o e => hkp b o (Nat.ne_of_lt (Nat.lt_succ_of_lt (Heap.lt_size e))) (Nat.ne_of_lt (Heap.lt_size e)) (k b o e)⟩
end

section
open PySem PySem.W PyProof.Rows PySem.Calls
def SqFree (T : List Nat) : Prop := ∀ k j, 1 ≤ k → j + 2 * k ≤ T.length → (T.drop j).take k ≠ (T.drop (j + k)).take k
theorem mem_rangeKs {a k : Int} {n : Nat} (h : k ∈ rangeKs a n) : ∃ i : Nat, k = a + (i : Int) ∧ i < n := by
  obtain ⟨i, hi, rfl⟩ := List.mem_map.mp h
  exact ⟨i, rfl, List.mem_range.mp hi⟩
theorem plainB_of {text : Str} (h : SqFree (C text)) : plainB text = true := by
  refine List.all_eq_true.mpr fun k hk => List.all_eq_true.mpr fun j hj => ?_
  obtain ⟨i, rfl, hi⟩ := mem_rangeKs hk
  obtain ⟨i2, rfl, hi2⟩ := mem_rangeKs hj
  unfold noSq
  rw [beq_C, C_slice (by omega), C_slice (by omega)]
  have := h (1 + i) i2 (by omega) (by rw [len_C]; omega)
  have e1 : ((0 : Int) + (i2 : Int)).toNat = i2 := by omega
  have e2 : ((0 : Int) + (i2 : Int) + (1 + (i : Int)) - (0 + (i2 : Int))).toNat = 1 + i := by omega
  have e3 : ((0 : Int) + (i2 : Int) + (1 + (i : Int))).toNat = i2 + (1 + i) := by omega
  have e4 : ((0 : Int) + (i2 : Int) + 2 * (1 + (i : Int)) - (0 + (i2 : Int) + (1 + (i : Int)))).toNat = 1 + i := by omega
  rw [e1, e2, e3, e4]
  simpa using this
theorem sqEnd_iff {text : Str} {k : Nat} (hk : 2 * k ≤ text.length) : sqEnd text (k : Int) = true ↔ (C text).drop (text.length - k) = ((C text).drop (text.length - 2 * k)).take k := by
  unfold sqEnd
  rw [beq_C, C_from (by omega), C_slice (by omega)]
  have e1 : ((text.length : Int) - (k : Int)).toNat = text.length - k := by omega
  have e2 : ((text.length : Int) - 2 * (k : Int)).toNat = text.length - 2 * k := by omega
  have e3 : ((text.length : Int) - (k : Int) - ((text.length : Int) - 2 * (k : Int))).toNat = k := by omega
  rw [e1, e2, e3]
  simp
theorem sqFree_take {T : List Nat} (h : SqFree T) (m : Nat) : SqFree (T.take m) := by
  intro k j hk hj
  have hl : (T.take m).length ≤ m ∧ (T.take m).length ≤ T.length := by simp only [List.length_take]; omega
  have := h k j hk (by omega)
  intro e
  apply this
  have a1 : ((T.take m).drop j).take k = (T.drop j).take k := by
    rw [List.drop_take, List.take_take, Nat.min_eq_left (by omega)]
  have a2 : ((T.take m).drop (j + k)).take k = (T.drop (j + k)).take k := by
    rw [List.drop_take, List.take_take, Nat.min_eq_left (by omega)]
  rw [← a1, ← a2, e]
theorem pop_law {T : List Nat} {c : Nat} {text : Str} (hs : SqFree T) (hT : C text = T ++ [c]) :
    ∃ k : Nat, twiceI text = (k : Int) ∧ 2 * k ≤ text.length ∧ SqFree ((C text).take (text.length - k)) ∧ C text = (C text).take (text.length - k) ++ ((C text).take (text.length - k)).drop (((C text).take (text.length - k)).length - k) ∧
      (C text).drop (text.length - k) = ((C text).take (text.length - k)).drop (((C text).take (text.length - k)).length - k) := by
  have hn : text.length = T.length + 1 := by rw [← len_C, hT]; simp
  have hlen := len_C text
  cases hf : (rangeKs 1 (text.length / 2)).find? (fun k => sqEnd text k) with
  | none =>
    refine ⟨0, by unfold twiceI; rw [hf]; rfl, by omega, ?_, ?_, ?_⟩
    · rw [Nat.sub_zero, List.take_of_length_le (by omega)]
      intro k j hk hj
      by_cases hl : j + 2 * k ≤ T.length
      · have := hs k j hk hl
        rw [hT, List.drop_append_of_le_length (by omega), List.take_append_of_le_length (by simp; omega), List.drop_append_of_le_length (by omega), List.take_append_of_le_length (by simp; omega)]
        exact this
      · have hjk : j = text.length - 2 * k := by omega
        have hno := List.find?_eq_none.mp hf (k : Int) (mem_rangeKs' (i := k - 1) (by omega) (by omega))
        intro e
        apply hno
        rw [sqEnd_iff (by omega), ← hjk, e]
        have e2 : j + k = text.length - k := by omega
        rw [e2, List.take_of_length_le (by rw [List.length_drop]; omega)]
    · simp only [Nat.sub_zero]
      rw [List.take_of_length_le (by omega), List.drop_length, List.append_nil]
    · simp only [Nat.sub_zero]
      rw [List.take_of_length_le (by omega), List.drop_length, List.drop_of_length_le (by omega)]
  | some kk =>
    have hmem := List.mem_of_find?_eq_some hf
    obtain ⟨i, rfl, hi⟩ := mem_rangeKs hmem
    have hsq := List.find?_some hf
    have e0 : (1 + (i : Int)) = ((1 + i : Nat) : Int) := by omega
    rw [e0] at hsq hf
    rw [sqEnd_iff (by omega)] at hsq
    have key : (C text).drop (text.length - (1 + i)) = ((C text).take (text.length - (1 + i))).drop (((C text).take (text.length - (1 + i))).length - (1 + i)) := by
      rw [List.length_take, Nat.min_eq_left (by omega), List.drop_take, hsq]
      congr 1
      · omega
      · congr 1; omega
    refine ⟨1 + i, by unfold twiceI; rw [hf]; rfl, by omega, ?_, ?_, key⟩
    · have e2 : (C text).take (text.length - (1 + i)) = T.take (text.length - (1 + i)) := by rw [hT, List.take_append_of_le_length (by omega)]
      rw [e2]
      exact sqFree_take hs _
    · rw [← key, List.take_append_drop]
theorem C_sjoin : ∀ (l : List Str), C (Str.join (Str.ofString "") l) = l.flatMap C
  | [] => rfl
  | [x] => by
    show C x = _
    simp
  | x :: y :: r => by
    show C (x ++ Str.ofString "" ++ Str.join (Str.ofString "") (y :: r)) = _
    rw [C_append, C_append, C_empty, List.append_nil, C_sjoin (y :: r)]; rfl
theorem C_join (l : List Str) : C (Txt.join (Str.ofString "") l) = l.flatMap C := by
  rw [eq_of_beq (join_closes (ys := l) (sep := Str.ofString "") (sep' := Str.ofString "") rfl), C_sjoin]
theorem C_textOf (tvs : List Cell9) : C (textOf tvs) = tvs.flatMap fun t => C t.2.2.1 := by
  unfold textOf
  rw [C_join, List.flatMap_map]
theorem flat_one {α : Type} (f : α → List Nat) : ∀ (l : List α), (∀ t ∈ l, (f t).length = 1) → (l.flatMap f).length = l.length ∧ ∀ m, (l.take m).flatMap f = (l.flatMap f).take m ∧ (l.drop m).flatMap f = (l.flatMap f).drop m
  | [], _ => ⟨rfl, fun m => by simp⟩
  | x :: r, h => by
    have h1 := h x (.head _)
    obtain ⟨h2, h3⟩ := flat_one f r fun t ht => h t (.tail _ ht)
    refine ⟨by rw [List.flatMap_cons, List.length_append, h1, h2, List.length_cons]; omega, fun m => ?_⟩
    cases m with
    | zero => simp
    | succ m =>
      obtain ⟨c, hc⟩ := List.length_eq_one_iff.mp h1
      rw [List.take_succ_cons, List.drop_succ_cons, List.flatMap_cons, List.flatMap_cons, (h3 m).1, (h3 m).2, hc]
      exact ⟨rfl, rfl⟩
theorem text_take {tvs : List Cell9} (h : ∀ t ∈ tvs, t.2.2.1.length = 1) (m : Nat) : C (textOf (tvs.take m)) = (C (textOf tvs)).take m := by
  rw [C_textOf, C_textOf]
  exact ((flat_one _ tvs fun t ht => by rw [len_C]; exact h t ht).2 m).1
theorem text_drop {tvs : List Cell9} (h : ∀ t ∈ tvs, t.2.2.1.length = 1) (m : Nat) : C (textOf (tvs.drop m)) = (C (textOf tvs)).drop m := by
  rw [C_textOf, C_textOf]
  exact ((flat_one _ tvs fun t ht => by rw [len_C]; exact h t ht).2 m).2
theorem text_len {tvs : List Cell9} (h : ∀ t ∈ tvs, t.2.2.1.length = 1) : (textOf tvs).length = tvs.length := by
  rw [← len_C, C_textOf]
  exact (flat_one _ tvs fun t ht => by rw [len_C]; exact h t ht).1
theorem text_snoc (tvs : List Cell9) (t : Cell9) : C (textOf (tvs ++ [t])) = C (textOf tvs) ++ C t.2.2.1 := by
  rw [C_textOf, C_textOf, List.flatMap_append]; simp
theorem C_letter (k : Int) : C (letterS k) = [97 + k.toNat] := rfl
theorem draw_law {m st pc T : Int} : (((st + pc * T).fmod 5 + 1 + m.fmod 4).fmod 5 - st - pc * T - 1).fmod 5 = m.fmod 4 := by
  have a1 := Int.fmod_nonneg_of_pos m (b := 4) (by decide)
  have a2 := Int.fmod_lt_of_pos m (b := 4) (by decide)
  generalize hz : st + pc * T = z
  have e : ((z.fmod 5 + 1 + m.fmod 4).fmod 5 - st - pc * T - 1) = ((z.fmod 5 + 1 + m.fmod 4).fmod 5 - z - 1) := by omega
  rw [e]
  have b1 := Int.fmod_nonneg_of_pos z (b := 5) (by decide)
  have b2 := Int.fmod_lt_of_pos z (b := 5) (by decide)
  have b3 := Int.mul_fdiv_add_fmod z 5
  generalize m.fmod 4 = q at *
  have c3 := Int.mul_fdiv_add_fmod (z.fmod 5 + 1 + q) 5
  have c1 := Int.fmod_nonneg_of_pos (z.fmod 5 + 1 + q) (b := 5) (by decide)
  have c2 := Int.fmod_lt_of_pos (z.fmod 5 + 1 + q) (b := 5) (by decide)
  generalize hw : (z.fmod 5 + 1 + q).fmod 5 = y at *
  have d3 := Int.mul_fdiv_add_fmod (y - z - 1) 5
  have d1 := Int.fmod_nonneg_of_pos (y - z - 1) (b := 5) (by decide)
  have d2 := Int.fmod_lt_of_pos (y - z - 1) (b := 5) (by decide)
  omega
end

section
open PySem PySem.W PyProof.Rows PySem.Calls
noncomputable abbrev K69 (P : Params) : Frag := hd.heap_39 P ++ [(69, tabObj #[])]
theorem k69_eq : ∀ P : Params, [2, 3, 15, 17, 18, 20, 21, 22, 25, 30, 31, 32, 34, 35, 37, 38, 39, 41, 42, 44, 45, 46, 47, 49, 50, 52, 53, 54, 56, 57, 59, 60, 61, 63, 64, 66, 67, 68, 70, 71, 73, 74, 75, 76, 78, 79, 81, 82, 83, 85, 86, 88, 89, 90, 91, 93, 94, 96, 97, 98, 99, 100, 101, 102, 105, 107, 108, 110, 111, 112, 114, 115, 117, 118, 126, 128, 129, 131, 132, 133, 135, 136, 138, 139, 140, 141, 142, 143, 144, 147, 149, 150, 152, 153, 154, 157, 158, 159, 161, 162, 164, 165, 166, 168, 169, 171, 172, 173, 176, 177, 69] = (K69 P).map (·.1) := fun P => by kernel_rfl
abbrev swapHook {q : Program} {loose : List Str} {XP : (Str → Option Value) → Heap → Prop} {YP : World → Heap → Prop} {r : RowW} {d : DefRec} {kwd : List (Str × Expr)} {run : Value → List Value → Sem Value} {P : Prop} (_ : WalkO q loose XP YP r d kwd run → P) (YP' : World → Heap → Prop) : Prop :=
  WalkO q loose XP YP' r d kwd run
theorem in_left {K K' : Frag} {h : Heap} (X : (K ++ K').In h) : K.In h := fun a o e => X a o (by rw [List.lookup_append, e]; rfl)
theorem k69_at (w : World) : (K69 w.params).lookup 69 = some (tabObj #[]) := by kernel_rfl
def codeOk (K : Frag) : Bool := match K.lookup 73 with
  | some ⟨.type n, _, .fields vs, _⟩ => n == "code" && vs[11]? == some (.ref 69) && vs.getD 11 .none == .ref 69 && (match vs.getD 18 .none, vs.getD 7 .none, vs.getD 9 .none, vs.getD 10 .none with | .str .., .int .., .bool _, .int .. => true | _, _, _, _ => false)
  | _ => false
theorem code73 (w : World) : codeOk (hd.heap_39 w.params) = true := by kernel_rfl
theorem codeHd_of9 {K : Frag} {h : Heap} (X : K.In h) (e : codeOk K = true) : CodeHd h 73 69 := by
  unfold codeOk at e
  split at e
  · rename_i n d vs sl ho
    simp only [Bool.and_eq_true, beq_iff_eq] at e
    obtain ⟨⟨⟨rfl, e2⟩, e3⟩, e4⟩ := e
    split at e4
    · rename_i a1 t1 a2 t2 a3 a4 t4 q1 q2 q3 q4
      exact ⟨_, vs, a1, t1, a2, t2, a3, a4, t4, X _ _ ho, rfl, rfl, e2, e3, q1, q2, q3, q4, by decide⟩
    · cases e4
  · cases e
theorem news_elt {g h h' : Heap} {L : Addr} {led : List (Addr × Obj)} (k : InElt h h') (N : News g L h led) : News g L h' led := fun p hp => ⟨k _ _ (N p hp).1, (N p hp).2⟩
theorem new_entry {g h h' : Heap} {L x : Addr} {m : Str → Option Value} {o : Obj} (F : Fr g L h m) (e : h.get? x = none) (e' : h'.get? x = some o) : h'.get? x = some o ∧ x ≠ L ∧ g.get? x = none := by
  refine ⟨e', fun q => ?_, ?_⟩
  · obtain ⟨oL, _, _, hL, _⟩ := F.ns
    rw [← q, e] at hL; cases hL
  · cases z : g.get? x with
    | none => rfl
    | some o' => rw [F.keep _ _ z] at e; cases e
theorem ms_range (nsv : List Int) : ∀ m ∈ (List.map (fun k' : Int => k'.fmod (10 ^ Int.toNat 6)) (List.take 6 nsv) ++ [20, 8, 31, 7, 42, 13, 2, 82]), 0 ≤ m ∧ m < 1000000 := by
  intro m hm
  rcases List.mem_append.mp hm with h | h
  · obtain ⟨k, _, rfl⟩ := List.mem_map.mp h
    have e : (10 : Int) ^ Int.toNat 6 = 1000000 := by decide
    rw [e]
    exact ⟨Int.fmod_nonneg_of_pos _ (by decide), Int.fmod_lt_of_pos _ (by decide)⟩
  · simp only [List.mem_cons, List.not_mem_nil, or_false] at h
    omega
def TL (tvs : List Cell9) (tl : List (Addr × Obj)) : Prop := (∀ t ∈ tvs, (t.1, tupOf t) ∈ tl ∧ t.2.2.1.length = 1) ∧ ∀ p ∈ tl, p.2.cls = .type "tuple"
theorem sqFree_nil : SqFree [] := fun k j h1 h2 => by simp only [List.length_nil] at h2; omega
abbrev stored : List Str := [Str.ofString "number", Str.ofString "lack", Str.ofString "taken", Str.ofString "text"]
def LawInv {g h : Heap} {L T l x dx D : Addr} {oT dO : Obj} {wsv : List Value} {n0 : Nat} {m : Str → Option Value} (_ : Fr g L h m) (_ : News g L h [(T, oT), (l, W.listOf #[] 0), (x, rowO dx #[] n0), (dx, dO), (D, W.listOf wsv.toArray 0), (69, tabObj #[])])
    (os0 : OsState) (st pc : Int) (ms : List Int) (i : Nat) (s' : Shared) : Prop :=
  s'.heap.IsListIter h.objs.size D i ∧ ∃ m2 tvs n2 vsz nsz ps ks tl, Fr g L s'.heap m2 ∧ News g L s'.heap ((x, rowO dx (rowI tvs) n2) :: (dx, dO) :: (l, W.listOf vsz.toArray nsz) :: (D, W.listOf wsv.toArray 0) :: (69, tabObj ps) :: tl) ∧ TL tvs tl ∧ TabOk genPos ps ∧ AllBare s'.gens ∧ s'.os = os0 ∧
    IntsAre vsz ks ∧ Hist st pc (C (textOf tvs)) ks ((ms.take i).map fun k => k.fmod 4) ∧ SqFree (C (textOf tvs)) ∧ ks.length = i ∧ ∀ z, z ∉ stored → m2 z = m z
theorem LawInv.init {g : Heap} {L T l x dx D : Addr} {oT dO : Obj} {wsv : List Value} {n0 : Nat} {m : Str → Option Value} {s : Shared} (F : Fr g L s.heap m) (N : News g L s.heap [(T, oT), (l, W.listOf #[] 0), (x, rowO dx #[] n0), (dx, dO), (D, W.listOf wsv.toArray 0), (69, tabObj #[])])
    {st pc : Int} {ms : List Int} (hg : AllBare s.gens) : LawInv F N s.os st pc ms 0 { s with heap := s.heap.push { cls := .type "list_iterator", data := .fields #[.ref D, .int 0 0] } } := by
  refine ⟨⟨_, Heap.get?_push_size _ rfl, rfl, rfl⟩, _, [], n0, [], 0, #[], [], [], F.push _, fun p hp => ?_, ⟨(fun t ht => nomatch ht), (fun p hp => nomatch hp)⟩, .inl rfl, hg, rfl, .nil, .nil, sqFree_nil, rfl, fun _ _ => rfl⟩
  have hp' : p ∈ [(T, oT), (l, W.listOf #[] 0), (x, rowO dx #[] n0), (dx, dO), (D, W.listOf wsv.toArray 0), (69, tabObj #[])] := by
    simp only [List.mem_cons, List.not_mem_nil, or_false] at hp
    rcases hp with rfl | rfl | rfl | rfl | rfl
    · exact .tail _ (.tail _ (.head _))
    · exact .tail _ (.tail _ (.tail _ (.head _)))
    · exact .tail _ (.head _)
    · exact .tail _ (.tail _ (.tail _ (.tail _ (.head _))))
    · exact .tail _ (.tail _ (.tail _ (.tail _ (.tail _ (.head _)))))
  exact ⟨Heap.get?_push_of_some _ (N p hp').1, (N p hp').2⟩
theorem fr_iter3 {g h0 h h₁ : Heap} {L l : Addr} {m0 m : Str → Option Value} {led : List (Addr × Obj)} {i j : Nat} (F0 : Fr g L h0 m0) (F : Fr g L h m) (N : News g L h led) (hI : h.IsListIter h0.objs.size l j) (hno : ∀ p ∈ led, p.2.cls ≠ .type "list_iterator")
    (hk : ∀ b o, b ≠ h0.objs.size → h.get? b = some o → h₁.get? b = some o) (hit : h₁.IsListIter h0.objs.size l i) :
    Fr g L h₁ m ∧ ∃ oI, News g L h₁ ((h0.objs.size, oI) :: led) ∧ ∀ h' : Heap, h'.get? h0.objs.size = some oI → h'.IsListIter h0.objs.size l i := by
  have hL : L < h0.objs.size := F0.ns.lt
  have hg : g.get? h0.objs.size = none := next_is_new F0
  obtain ⟨oI, e, r⟩ := hit
  refine ⟨⟨F.ns.at' fun o e => hk _ o (Nat.ne_of_lt hL) e, fun b o e => hk b o (fun q => by rw [q, hg] at e; cases e) (F.keep b o e), F.above⟩, oI, fun p hp => ?_, fun h' e' => ⟨oI, e', r⟩⟩
  rcases List.mem_cons.mp hp with rfl | hp
  · exact ⟨e, Ne.symm (Nat.ne_of_lt hL), hg⟩
  · refine ⟨hk _ _ (fun q => ?_) (N p hp).1, (N p hp).2⟩
    obtain ⟨oJ, eJ, cJ, _⟩ := hI
    have := (N p hp).1
    rw [q, eJ] at this
    exact hno p hp ((Option.some.inj this) ▸ cJ)
theorem led_cls {x dx l D : Addr} {tvs : List Cell9} {n : Nat} {dO : Obj} {vsz wsv : List Value} {nsz : Nat} {ps : Array Value} {tl : List (Addr × Obj)} (hd : dO.cls = .type "dict") (ht : ∀ p ∈ tl, p.2.cls = .type "tuple") :
    ∀ p ∈ (x, rowO dx (rowI tvs) n) :: (dx, dO) :: (l, W.listOf vsz.toArray nsz) :: (D, W.listOf wsv.toArray 0) :: (69, tabObj ps) :: tl, p.2.cls ≠ .type "list_iterator" := by
  intro p hp
  simp only [List.mem_cons] at hp
  rcases hp with rfl | rfl | rfl | rfl | rfl | hp
  · intro q; cases q
  · show dO.cls ≠ _; rw [hd]; decide
  · show Value.type "list" ≠ _; decide
  · show Value.type "list" ≠ _; decide
  · intro q; cases q
  · rw [ht p hp]; decide
theorem news_cls {g h h' : Heap} {L b : Addr} {ob : Obj} {led : List (Addr × Obj)} (N : News g L h led) (hb : h.get? b = some ob) (hc : ∀ p ∈ led, p.2.cls ≠ ob.cls) (hk : ∀ c o, c ≠ b → h.get? c = some o → h'.get? c = some o) : News g L h' led := fun p hp => by
  refine ⟨hk _ _ (fun q => ?_) (N p hp).1, (N p hp).2⟩
  have e := (N p hp).1
  rw [q, hb] at e
  exact hc p hp ((Option.some.inj e) ▸ rfl)
theorem fr_but {g h h' : Heap} {L b : Addr} {m : Str → Option Value} (F : Fr g L h m) (hb : b ≠ L ∧ g.get? b = none) (hk : ∀ c o, c ≠ b → h.get? c = some o → h'.get? c = some o) : Fr g L h' m :=
  ⟨F.ns.at' fun o e => hk _ o (Ne.symm hb.1) e, fun c o e => hk c o (fun q => by rw [q, hb.2] at e; cases e) (F.keep c o e), F.above⟩
theorem iter_cls {h : Heap} {I D : Addr} {i : Nat} {oI : Obj} (e : h.get? I = some oI) (hit : ∀ h' : Heap, h'.get? I = some oI → h'.IsListIter I D i) : oI.cls = .type "list_iterator" := by
  obtain ⟨o, e2, c, _⟩ := hit h e
  rw [e] at e2
  exact (Option.some.inj e2) ▸ c
theorem rest_cls {I dx l D : Addr} {oI dO : Obj} {vsz wsv : List Value} {nsz : Nat} {ps : Array Value} {tl : List (Addr × Obj)} (hi : oI.cls = .type "list_iterator") (hd : dO.cls = .type "dict") (ht : ∀ p ∈ tl, p.2.cls = .type "tuple") :
    ∀ p ∈ (I, oI) :: (dx, dO) :: (l, W.listOf vsz.toArray nsz) :: (D, W.listOf wsv.toArray 0) :: (69, tabObj ps) :: tl, p.2.cls ≠ .ref 100 := by
  intro p hp
  simp only [List.mem_cons] at hp
  rcases hp with rfl | rfl | rfl | rfl | rfl | hp
  · show oI.cls ≠ _; rw [hi]; decide
  · show dO.cls ≠ _; rw [hd]; decide
  · show Value.type "list" ≠ _; decide
  · show Value.type "list" ≠ _; decide
  · intro q; cases q
  · rw [ht p hp]; decide
theorem rowI_snoc (tvs : List Cell9) (t : Cell9) : (rowI tvs).push (.ref t.1) = rowI (tvs ++ [t]) := by simp [rowI]
theorem news_push {g h h' : Heap} {L I x dx : Addr} {m : Str → Option Value} {oI dO oT : Obj} {tvs : List Cell9} {n : Nat} {rest : List (Addr × Obj)} {a b c : Addr × Obj} {u : Cell9} (N : News g L h ((I, oI) :: (x, rowO dx (rowI tvs) n) :: (dx, dO) :: a :: b :: c :: rest)) (F : Fr g L h m)
    (hx : h.get? x = some (rowO dx (rowI tvs) n) ∧ x ≠ L ∧ g.get? x = none) (hr : ∀ p ∈ (I, oI) :: (dx, dO) :: a :: b :: c :: rest, p.2.cls ≠ .ref 100)
    (hT0 : h.get? u.1 = none) (hT : h'.get? u.1 = some oT) (hx' : h'.get? x = some (rowO dx ((rowI tvs).push (.ref u.1)) (n + 1))) (k : ∀ q o, q ≠ x → h.get? q = some o → h'.get? q = some o) :
    News g L h' ((I, oI) :: (x, rowO dx (rowI (tvs ++ [u])) (n + 1)) :: (dx, dO) :: a :: b :: c :: (u.1, oT) :: rest) := by
  have N1 : News g L h ((I, oI) :: (dx, dO) :: a :: b :: c :: rest) := fun p hp => N p (by
    simp only [List.mem_cons] at hp ⊢
    rcases hp with hp | hp
    · exact .inl hp
    · exact .inr (.inr hp))
  have N2 := news_cls N1 hx.1 hr k
  intro p hp
  simp only [List.mem_cons] at hp
  rcases hp with rfl | rfl | rfl | rfl | rfl | rfl | rfl | hp
  · exact N2 _ (.head _)
  · exact ⟨by rw [← rowI_snoc]; exact hx', hx.2⟩
  · exact N2 _ (.tail _ (.head _))
  · exact N2 _ (.tail _ (.tail _ (.head _)))
  · exact N2 _ (.tail _ (.tail _ (.tail _ (.head _))))
  · exact N2 _ (.tail _ (.tail _ (.tail _ (.tail _ (.head _)))))
  · exact new_entry F hT0 hT
  · exact N2 _ (.tail _ (.tail _ (.tail _ (.tail _ (.tail _ hp)))))
theorem tl_push {tvs : List Cell9} {tl : List (Addr × Obj)} {T : Addr} {tx ty : Tok} {y : Str} (h : TL tvs tl) (hy : y.length = 1) : TL (tvs ++ [(T, tx, y, ty)]) ((T, { cls := .type "tuple", data := .seq #[.str (Str.ofString "") tx, .str y ty] }) :: tl) := by
  refine ⟨fun t ht => ?_, fun p hp => ?_⟩
  · rcases List.mem_append.mp ht with q | q
    · exact ⟨.tail _ (h.1 t q).1, (h.1 t q).2⟩
    · rw [List.mem_singleton.mp q]; exact ⟨.head _, hy⟩
  · rcases List.mem_cons.mp hp with rfl | q
    · rfl
    · exact h.2 p q
theorem rest_none {I x dx l D : Addr} {oI dO : Obj} {its : Array Value} {n : Nat} {vsz wsv : List Value} {nsz : Nat} {tl : List (Addr × Obj)} (hi : oI.cls = .type "list_iterator") (hd : dO.cls = .type "dict") (ht : ∀ p ∈ tl, p.2.cls = .type "tuple") :
    ∀ p ∈ [(I, oI), (x, rowO dx its n), (dx, dO), (l, W.listOf vsz.toArray nsz), (D, W.listOf wsv.toArray 0)] ++ tl, p.2.cls ≠ .none := by
  intro p hp
  simp only [List.cons_append, List.nil_append, List.mem_cons] at hp
  rcases hp with rfl | rfl | rfl | rfl | rfl | hp
  · show oI.cls ≠ _; rw [hi]; decide
  · intro q; cases q
  · show dO.cls ≠ _; rw [hd]; decide
  · show Value.type "list" ≠ _; decide
  · show Value.type "list" ≠ _; decide
  · rw [ht p hp]; decide
theorem news_one {g h h' : Heap} {L b : Addr} {ob ob' : Obj} {pre post : List (Addr × Obj)} (N : News g L h (pre ++ (b, ob) :: post)) (hc : ∀ p ∈ pre ++ post, p.2.cls ≠ ob.cls) (hk : ∀ c o, c ≠ b → h.get? c = some o → h'.get? c = some o) (hb : h'.get? b = some ob') :
    News g L h' (pre ++ (b, ob') :: post) := by
  have Nb := N (b, ob) (List.mem_append_right _ (.head _))
  have N1 : News g L h (pre ++ post) := fun p hp => N p (by
    rcases List.mem_append.mp hp with q | q
    · exact List.mem_append_left _ q
    · exact List.mem_append_right _ (.tail _ q))
  have N2 := news_cls N1 Nb.1 hc hk
  intro p hp
  rcases List.mem_append.mp hp with q | q
  · exact N2 p (List.mem_append_left _ q)
  · rcases List.mem_cons.mp q with rfl | q
    · exact ⟨hb, Nb.2⟩
    · exact N2 p (List.mem_append_right _ q)
theorem row_items {g h : Heap} {L : Addr} {tvs : List Cell9} {led tl : List (Addr × Obj)} (N : News g L h led) (ht : TL tvs tl) (hs : ∀ p ∈ tl, p ∈ led) : RowItems h tvs := fun t hp => ⟨(N _ (hs _ (ht.1 t hp).1)).1, (ht.1 t hp).2⟩
theorem dict_ne_none {dO : Obj} {ps : Array Value} (hd : dO.cls = .type "dict") (e : some dO = some (tabObj ps)) : False := by
  rw [Option.some.inj e] at hd
  cases hd
theorem news_ne {g h h' : Heap} {L b : Addr} {ob : Obj} {led : List (Addr × Obj)} (N : News g L h led) (hb : h.get? b = some ob) (hc : ∀ p ∈ led, p.2.cls ≠ ob.cls ∨ p.1 ≠ b) (hk : ∀ c o, c ≠ b → h.get? c = some o → h'.get? c = some o) : News g L h' led := fun p hp => by
  refine ⟨hk _ _ (fun q => ?_) (N p hp).1, (N p hp).2⟩
  have e := (N p hp).1
  rw [q, hb] at e
  rcases hc p hp with c | c
  · exact c ((Option.some.inj e) ▸ rfl)
  · exact c q
theorem news_one2 {g h h' : Heap} {L b : Addr} {ob ob' : Obj} {pre post : List (Addr × Obj)} (N : News g L h (pre ++ (b, ob) :: post)) (hc : ∀ p ∈ pre ++ post, p.2.cls ≠ ob.cls ∨ p.1 ≠ b) (hk : ∀ c o, c ≠ b → h.get? c = some o → h'.get? c = some o) (hb : h'.get? b = some ob') :
    News g L h' (pre ++ (b, ob') :: post) := by
  have Nb := N (b, ob) (List.mem_append_right _ (.head _))
  have N1 : News g L h (pre ++ post) := fun p hp => N p (by
    rcases List.mem_append.mp hp with q | q
    · exact List.mem_append_left _ q
    · exact List.mem_append_right _ (.tail _ q))
  have N2 := news_ne N1 Nb.1 hc hk
  intro p hp
  rcases List.mem_append.mp hp with q | q
  · exact N2 p (List.mem_append_left _ q)
  · rcases List.mem_cons.mp q with rfl | q
    · exact ⟨hb, Nb.2⟩
    · exact N2 p (List.mem_append_right _ q)
theorem rest_list {P I x dx l D : Addr} {oI dO : Obj} {its : Array Value} {n : Nat} {vsp wsv : List Value} {nsp : Nat} {ps : Array Value} {tl : List (Addr × Obj)} (hi : oI.cls = .type "list_iterator") (hd : dO.cls = .type "dict") (ht : ∀ p ∈ tl, p.2.cls = .type "tuple") (hP : P ≠ l) (hD : D ≠ l) :
    ∀ p ∈ [(P, W.listOf vsp.toArray nsp), (I, oI), (x, rowO dx its n), (dx, dO)] ++ ((D, W.listOf wsv.toArray 0) :: (69, tabObj ps) :: tl), p.2.cls ≠ .type "list" ∨ p.1 ≠ l := by
  intro p hp
  simp only [List.cons_append, List.nil_append, List.mem_cons] at hp
  rcases hp with rfl | rfl | rfl | rfl | rfl | rfl | hp
  · exact .inr hP
  · left; show oI.cls ≠ _; rw [hi]; decide
  · left; intro q; cases q
  · left; show dO.cls ≠ _; rw [hd]; decide
  · exact .inr hD
  · left; intro q; cases q
  · left; rw [ht p hp]; decide
theorem rest_row {I dx l D : Addr} {oI dO : Obj} {vsz wsv : List Value} {nsz : Nat} {ps : Array Value} {tl : List (Addr × Obj)} (hi : oI.cls = .type "list_iterator") (hd : dO.cls = .type "dict") (ht : ∀ p ∈ tl, p.2.cls = .type "tuple") :
    ∀ p ∈ [(I, oI)] ++ ((dx, dO) :: (l, W.listOf vsz.toArray nsz) :: (D, W.listOf wsv.toArray 0) :: (69, tabObj ps) :: tl), p.2.cls ≠ .ref 100 :=
  rest_cls hi hd ht
theorem stop_pc {M : Model} {A : Around} {r : Addr} {pl : Sem Bool} {Q : Value × List Value → Shared → Prop} {E : Value → Shared → Prop} {s : Shared} (h : Stop (wpAny M A (getMethod (.ref r) (Str.ofString "part_count") pl) Q E s)) : wpAny M A (getMethod (.ref r) (Str.ofString "part_count") pl) Q E s := h.out
theorem stop_push {M : Model} {A : Around} {r : Addr} {pl : Sem Bool} {Q : Value × List Value → Shared → Prop} {E : Value → Shared → Prop} {s : Shared} (h : Stop (wpAny M A (getMethod (.ref r) (Str.ofString "push") pl) Q E s)) : wpAny M A (getMethod (.ref r) (Str.ofString "push") pl) Q E s := h.out
theorem stop_pop {M : Model} {A : Around} {r : Addr} {pl : Sem Bool} {Q : Value × List Value → Shared → Prop} {E : Value → Shared → Prop} {s : Shared} (h : Stop (wpAny M A (getMethod (.ref r) (Str.ofString "pop_from") pl) Q E s)) : wpAny M A (getMethod (.ref r) (Str.ofString "pop_from") pl) Q E s := h.out
theorem tl_sub {tvs tvs' : List Cell9} {tl : List (Addr × Obj)} (h : TL tvs tl) (hs : ∀ t ∈ tvs', t ∈ tvs) : TL tvs' tl := ⟨fun t ht => h.1 t (hs t ht), h.2⟩
abbrev refsOf (tvs : List Cell9) : List Value := tvs.map fun t => Value.ref t.1
theorem rest_none2 {P I x dx l D : Addr} {oI dO : Obj} {its : Array Value} {n : Nat} {vsp vsz wsv : List Value} {nsp nsz : Nat} {tl : List (Addr × Obj)} (hi : oI.cls = .type "list_iterator") (hd : dO.cls = .type "dict") (ht : ∀ p ∈ tl, p.2.cls = .type "tuple") :
    ∀ p ∈ [(P, W.listOf vsp.toArray nsp), (I, oI), (x, rowO dx its n), (dx, dO), (l, W.listOf vsz.toArray nsz), (D, W.listOf wsv.toArray 0)] ++ tl, p.2.cls ≠ .none := by
  intro p hp
  rcases List.mem_cons.mp hp with rfl | hp
  · show Value.type "list" ≠ _; decide
  · exact rest_none hi hd ht p hp
theorem stop_lc {M : Model} {A : Around} {p pos : Pos} {gens : List Comprehension} {sc : Scope} {env : Env} {Q E : Value → Shared → Prop} {s : Shared} (h : Stop (wpAny M A (eval (.ListComp (.Name (Str.ofString "part") p) gens sc pos) env) Q E s)) : wpAny M A (eval (.ListComp (.Name (Str.ofString "part") p) gens sc pos) env) Q E s := h.out
abbrev partsOf (W9 : List Cell9) : List Value := W9.map fun t => Value.str t.2.2.1 t.2.2.2
theorem parts_rest {prog : Program} {w : World} {A : Around} {s : Shared} {h₀ : Heap} {L : Addr} {m : Str → Option Value} {env : Env} {p : Pos} {more : List (Str × Const)} {cl : List (Str × Addr)} {S : List (Addr × Obj) → Prop} {Fin : List Value → List (Addr × Obj) → Prop} {news : List (Addr × Obj)} {W9 : List Cell9}
    (hW : ∀ t ∈ W9, (t.1, tupOf t) ∈ news) (hS : S news) (fin : Fin (partsOf W9) news) :
    LCp.CompRestP prog w A h₀ L m env (.Name (Str.ofString "part") p) (Str.ofString "gap") (Str.ofString "part") { kind := .function, names := [(Str.ofString ".0", .local), (Str.ofString "gap", .local), (Str.ofString "part", .local)], isGenerator := false, isCoroutine := false, more := more } cl s S
      (fun i v => (refsOf W9).toArray[i]? = some v) Fin W9.length 0 [] news := by
  have key : ∀ (j i : Nat), i + j = W9.length → LCp.CompRestP prog w A h₀ L m env (.Name (Str.ofString "part") p) (Str.ofString "gap") (Str.ofString "part") { kind := .function, names := [(Str.ofString ".0", .local), (Str.ofString "gap", .local), (Str.ofString "part", .local)], isGenerator := false, isCoroutine := false, more := more } cl s S
      (fun i v => (refsOf W9).toArray[i]? = some v) Fin j i (partsOf (W9.take i)) news := by
    intro j
    induction j with
    | zero =>
      intro i hi
      refine LCp.CompRestP.zero ?_
      rw [List.take_of_length_le (by omega)]
      exact fin
    | succ j ih =>
      intro i hi
      refine LCp.CompRestP.succ ?_
      intro v hv
      have hi' : i < W9.length := by omega
      have hv' : v = .ref W9[i].1 := by
        have : (refsOf W9)[i]? = some v := by simpa using hv
        rw [List.getElem?_map, List.getElem?_eq_getElem hi'] at this
        exact (Option.some.inj this).symm
      refine ⟨W9[i].1, tupOf W9[i], _, _, _, hv', hW _ (List.getElem_mem hi'), rfl, rfl, ?_⟩
      intro I oI C oC D m₂ h tk E' hC h1 h2 F N off ne
      refine LCgL.ld_own (s := { s with heap := h, toks := tk }) N (List.mem_cons_of_mem _ List.mem_cons_self) hC h2 ?_
      refine LCg.CompEnd.intro F N news (fun p hp => hp) off hS ?_
      have e : partsOf (W9.take i) ++ [Value.str W9[i].2.2.1 W9[i].2.2.2] = partsOf (W9.take (i + 1)) := by
        rw [List.take_succ_eq_append_getElem hi', partsOf, partsOf, List.map_append]; rfl
      rw [e]
      exact ih (i + 1) (by omega)
  exact key W9.length 0 (by omega)
theorem parts_are : ∀ (W9 : List Cell9), StrsAre (partsOf W9) (W9.map fun t => t.2.2.1)
  | [] => .nil
  | t :: r => .cons _ _ (parts_are r)
theorem parts_sum : ∀ {W9 : List Cell9}, (∀ t ∈ W9, t.2.2.1.length = 1) → ((W9.map fun t => t.2.2.1).map (·.length)).sum = W9.length
  | [], _ => rfl
  | t :: r, h => by
    have h1 := h t (.head _)
    have h2 := parts_sum fun x hx => h x (.tail _ hx)
    simp only [List.map_cons, List.sum_cons, List.length_cons, h1, h2]
    omega
theorem hist_step {st pc : Int} {tvs U V : List Cell9} {ks ms : List Int} {i kk : Nat} {lk xx : Int} (hi : i < ms.length) (hH : Hist st pc (C (textOf tvs)) ks ((ms.take i).map fun k => k.fmod 4)) (hT : (textOf tvs).length = tvs.length)
    (hlk : (st + pc * (tvs.length : Int)).fmod 5 = lk) (hxx : (lk + 1 + ms[i].fmod 4).fmod 5 = xx) (hx0 : 0 ≤ xx ∧ xx < 5) (hC : C (textOf U) = C (textOf tvs) ++ [97 + xx.toNat]) (hCU : C (textOf U) = C (textOf V) ++ (C (textOf V)).drop ((C (textOf V)).length - kk))
    (hk : kk ≤ (textOf V).length) : Hist st pc (C (textOf V)) (ks ++ [(kk : Int)]) ((ms.take (i + 1)).map fun k => k.fmod 4) := by
  have e : (xx - st - pc * ((C (textOf tvs)).length : Int) - 1).fmod 5 = ms[i].fmod 4 := by
    rw [len_C, hT, ← hxx, ← hlk]
    exact draw_law
  have h := Hist.snoc (T' := C (textOf V)) (k := (kk : Int)) hH (Int.natCast_nonneg kk) (by rw [len_C]; exact_mod_cast hk) hx0.1 hx0.2 (by rw [← hC, hCU]; rfl)
  rw [e] at h
  rw [List.take_succ_eq_append_getElem hi, List.map_append]
  exact h
theorem parts_last {V W9 : List Cell9} {kk : Nat} (hl : W9.length = kk) (hk : kk ≤ (textOf V).length) (hC : C (textOf W9) = (C (textOf V)).drop ((C (textOf V)).length - kk))
    (h : (Txt.join (Str.ofString "") (W9.map fun t => t.2.2.1) != Txt.slice (textOf V) (some (((textOf V).length : Int) - (W9.length : Int))) none) = true) : False := by
  have e : Txt.join (Str.ofString "") (W9.map fun t => t.2.2.1) = Txt.slice (textOf V) (some (((textOf V).length : Int) - (W9.length : Int))) none := by
    refine str_ext ?_
    rw [C_from (by omega)]
    refine hC.trans ?_
    rw [len_C]
    congr 1
    omega
  rw [e] at h
  simp at h
theorem fr_done3 {g h0 h h₁ : Heap} {L l : Addr} {m0 m : Str → Option Value} {led : List (Addr × Obj)} {j : Nat} (F0 : Fr g L h0 m0) (F : Fr g L h m) (N : News g L h led) (hI : h.IsListIter h0.objs.size l j) (hno : ∀ p ∈ led, p.2.cls ≠ .type "list_iterator")
    (hk : ∀ b o, b ≠ h0.objs.size → h.get? b = some o → h₁.get? b = some o) : Fr g L h₁ m ∧ News g L h₁ led := by
  have hL : L < h0.objs.size := F0.ns.lt
  have hg : g.get? h0.objs.size = none := next_is_new F0
  refine ⟨⟨F.ns.at' fun o e => hk _ o (Nat.ne_of_lt hL) e, fun b o e => hk b o (fun q => by rw [q, hg] at e; cases e) (F.keep b o e), F.above⟩, fun p hp => ?_⟩
  refine ⟨hk _ _ (fun q => ?_) (N p hp).1, (N p hp).2⟩
  obtain ⟨oJ, eJ, cJ, _⟩ := hI
  have := (N p hp).1
  rw [q, eJ] at this
  exact hno p hp ((Option.some.inj this) ▸ cJ)
theorem rest_none3 {x dx l D : Addr} {dO : Obj} {its : Array Value} {n : Nat} {vsz wsv : List Value} {nsz : Nat} {tl : List (Addr × Obj)} (hd : dO.cls = .type "dict") (ht : ∀ p ∈ tl, p.2.cls = .type "tuple") :
    ∀ p ∈ [(x, rowO dx its n), (dx, dO), (l, W.listOf vsz.toArray nsz), (D, W.listOf wsv.toArray 0)] ++ tl, p.2.cls ≠ .none := by
  intro p hp
  simp only [List.cons_append, List.nil_append, List.mem_cons] at hp
  rcases hp with rfl | rfl | rfl | rfl | hp
  · intro q; cases q
  · show dO.cls ≠ _; rw [hd]; decide
  · show Value.type "list" ≠ _; decide
  · show Value.type "list" ≠ _; decide
  · rw [ht p hp]; decide
section
open PySem.SeqAt
theorem pair_shaped (ns : List Int) : SeqAt.shaped (.tuple [.str (Str.ofString ""), .list (ns.map PyData.int)]) = true := by
  simp [SeqAt.shaped, PyData.canLay0, PyData.canLayAll0, PyData.depth, PyData.depthAll, ke_canLayAll0, ke_depthAll]
  decide +kernel
theorem eq_pair {prog : Program} {w : World} {A : Around} {E : Value → Shared → Prop} {s : Shared} {a b R R' : Addr} {xs ys : List Value} {ns : List Int} {t t' : Tok} {n n' : Nat} {Q : Value → Shared → Prop}
    (ha : s.heap.get? a = some { cls := .type "tuple", data := .seq #[.str (Str.ofString "") t, .ref R] }) (hb : s.heap.get? b = some { cls := .type "tuple", data := .seq #[.str (Str.ofString "") t', .ref R'] })
    (hR : s.heap.get? R = some (W.listOf xs.toArray n)) (hR' : s.heap.get? R' = some (W.listOf ys.toArray n')) (hi : IntsAre xs ns) (hj : IntsAre ys ns) (hu : A.units + 64 < cLine) (h : Q (.bool true) s) :
    wpAny (model prog w) A (compareOp .Eq (.ref a) (.ref b)) Q E s := by
  have ra : Reads s.heap (.ref a) (.tuple [.str (Str.ofString ""), .list (ns.map PyData.int)]) _ := reads_tuple_at ha rfl rfl (ReadsAll.cons (Reads.str _ _) (ReadsAll.cons (reads_newData ⟨_, hR, rfl, _, rfl⟩ (ke_carried hi)) ReadsAll.nil))
  have rb : Reads s.heap (.ref b) (.tuple [.str (Str.ofString ""), .list (ns.map PyData.int)]) _ := reads_tuple_at hb rfl rfl (ReadsAll.cons (Reads.str _ _) (ReadsAll.cons (reads_newData ⟨_, hR', rfl, _, rfl⟩ (ke_carried hj)) ReadsAll.nil))
  refine eq_dataH ra rb (pair_shaped ns) (pair_shaped ns) hu ?_
  have e : PyData.eqv (.tuple [.str (Str.ofString ""), .list (ns.map PyData.int)]) (.tuple [.str (Str.ofString ""), .list (ns.map PyData.int)]) = true := by
    simp [PyData.eqv, PyData.eqvAll, ked_eqvAll]
  rw [e]; exact h
end
theorem law_end {c : ClaimW} {cl : Str → Option Addr} {mean : ExcName → Option Value} {args : List WData} {s₁ : Shared} {h h₀ : Heap} {g : Array GenState} {d : Drawn} {t : Nat} {os : OsState} {L : Addr} {m : Str → Option Value} {ps : Array Value}
    (F : Fr h₀ L h m) (hrel : ∀ b o, b ≠ 69 → s₁.heap.get? b = some o → h₀.get? b = some o) (h69 : s₁.heap.get? 69 = some (tabObj #[])) (C73 : CodeHd s₁.heap 73 69) (hP : h.get? 69 = some (tabObj ps))
    (hr : ∀ cls, c.raises args cls = false) (hp : c.post args (.bool true) args = true) (hos : os = s₁.os) (G : AllBare g) : GoodWG c cl mean args s₁ (.ok (.ret (.bool true))) ⟨h, g, d, t, os⟩ := by
  refine ⟨.inl ⟨_, _, [], rfl, hr, ReadsW.bool true, hp, fun _ => ⟨List.nodup_nil, fun _ hm => (nomatch hm)⟩⟩, ⟨fun b o e => ?_, fun b o e => ?_⟩, hos, G⟩
  · by_cases hb : b = 69
    · subst hb
      rw [h69] at e
      obtain rfl := Option.some.inj e
      exact .inr (.inl ⟨(C73.tab h69).isCodeTable, rfl, #[], ps, rfl, by rw [Array.empty_append]; exact hP⟩)
    · exact .inl (F.keep b o (hrel b o hb e))
  · by_cases hb : b = 69
    · subst hb; exact ⟨_, hP⟩
    · exact ⟨o, F.keep b o (hrel b o hb e)⟩
end

section
open PySem PySem.W PyProof.Rows PySem.Calls
section
local macro_rules | `(tactic| walk_at "compareOp Eq ref ref") => `(tactic| refine stop_here ?_)
local macro_rules | `(tactic| walk_at "call builtin:str.join") => `(tactic| refine stop_here ?_)
local macro_rules | `(tactic| walk_at "eval ListComp") => `(tactic| with_reducible refine stop_lc ?_)
local macro_rules | `(tactic| walk_at "SrcLP") => `(tactic| refine stop_here ?_)
local macro_rules | `(tactic| walk_at "getMethod ref") => `(tactic| with_reducible first | refine stop_pc ?_ | refine stop_push ?_ | refine stop_pop ?_)
local macro_rules | `(tactic| walk_at "last getMethod ref") => `(tactic| with_reducible first | refine stop_pc ?_ | refine stop_push ?_ | refine stop_pop ?_)
local macro_rules | `(tactic| walk_at "call type:str") => `(tactic| refine stop_here ?_)
local macro_rules | `(tactic| walk_at "call builtin:list.append") => `(tactic| refine stop_here ?_)
local macro_rules | `(tactic| walk_at "exec For Name Name cons nil") => `(tactic| refine stop_here ?_)
local macro_rules | `(tactic| walk_at "pyIter ref") => `(tactic| refine stop_here ?_)
local macro_rules | `(tactic| walk_at "call ref") => `(tactic| refine stop_here ?_)
local macro_rules | `(tactic| walk_at "call ref cons nil") => `(tactic| refine stop_here ?_)
theorem walk : swapHook hd (kHook K69 [2, 3, 15, 17, 18, 20, 21, 22, 25, 30, 31, 32, 34, 35, 37, 38, 39, 41, 42, 44, 45, 46, 47, 49, 50, 52, 53, 54, 56, 57, 59, 60, 61, 63, 64, 66, 67, 68, 70, 71, 73, 74, 75, 76, 78, 79, 81, 82, 83, 85, 86, 88, 89, 90, 91, 93, 94, 96, 97, 98, 99, 100, 101, 102, 105, 107, 108, 110, 111, 112, 114, 115, 117, 118, 126, 128, 129, 131, 132, 133, 135, 136, 138, 139, 140, 141, 142, 143, 144, 147, 149, 150, 152, 153, 154, 157, 158, 159, 161, 162, 164, 165, 166, 168, 169, 171, 172, 173, 176, 177, 69] k69_eq).says := by
  have hfill : PySem.Challenge.rw_wo0022_01 = PySem.Challenge.rw_wo0022_01 ∧ hd.heap_39 = hd.heap_39 := by
    k_fill
    exact ⟨rfl, rfl⟩
  clear hfill
  unfold swapHook
  intro w s₀ s₁ mg mb G Y fa o pm cd doc dV kV ho hd hcd hD hmg hg args vals as hpre hlay hrd hwl hlo
  have KX2 := kIn_of Y
  lge_behind G ho hd hcd hD hmg hpre hlay hrd hwl hlo cd
  clear Y
  rename Top _ _ _ _ _ _ => T1
  rename Heap.IsList _ _ _ => hL
  rename Based _ _ _ _ _ => B0
  rename Glob _ _ _ _ _ _ _ _ => GL
  rename TopE _ _ _ _ => TE
  rename TopW _ _ _ => TW
  rename Tables _ _ _ _ => B
  rename Flt.MathXP _ _ _ => X
  rename LooseAre _ _ _ => V
  rename Below _ _ _ _ => K0
  rename Fr _ _ _ _ => F1
  have KX : (hd.heap_39 w.params).In s₁.heap := in_left KX2
  have h69 : s₁.heap.get? 69 = some (tabObj #[]) := KX2 69 _ (k69_at w)
  have C73 : CodeHd s₁.heap 73 69 := codeHd_of9 KX (code73 w)
  have hT : TabsAt [(73, 69)] s₁.heap := fun q hq => by rw [List.mem_singleton.mp hq]; exact ⟨C73, h69⟩
  have T2 : Top topProg LT (ExcName.means s₀.heap) mg mb (ghostOf s₁.heap [(73, 69)]) := ghost_top hT T1
  have X2 : (hd.heap_39 w.params).In (ghostOf s₁.heap [(73, 69)]) := ghost_K hT KX (by kernel_rfl)
  have F2 := ghost_fr hT F1
  have N2 := ghost_news hT F1 (fun p hp => nomatch hp : News s₁.heap _ _ [])
  have B2 := ghost_below hT
  have hrel : ∀ b o, b ≠ 69 → s₁.heap.get? b = some o → (ghostOf s₁.heap [(73, 69)]).get? b = some o := fun b o hb e => ghost_ne e (by simpa using hb)
  have hLs := ghost_list hT hL
  simp only [tabNews, List.map_cons, List.map_nil, List.nil_append] at N2
  have hg0 : AllBare s₁.gens := .of_eq hg
  rename LGe.Mark => lgM
  rename BMod _ _ _ _ _ => bmM
  clear KX2 hT T1 F1 B0 GL TE TW B X V K0 lgM bmM
  dsimp only at F2
  generalize ghostOf s₁.heap [(73, 69)] = h₀ at *
  try k_fold
  k_steps
  refine Stop.mk ?_
  rename Fr _ _ _ _ => F3
  rename News _ _ _ _ => N3
  rename List Int => nsv
  refine make_c w 0 _ _ (ExcName.means s₀.heap) mg mb _ _ _ _ _ h₀ _ _ _ _ B2 F3 X2 (fun _ h => nomatch h) T2 rfl ?_
  intro x dx h4 tk4 n4 hv4 tkd hx4 hd4 hdx4 hrx hrd k4
  have F4 := F3.keeps k4
  have N4 : News h₀ _ h4 [(x, rowO dx #[] n4), (dx, dictI hv4 tkd (.int 0 _)), _, (69, tabObj #[])] := fun p hp => by
    simp only [List.mem_cons, List.not_mem_nil, or_false] at hp
    rcases hp with rfl | rfl | rfl | rfl
    · exact new_entry F3 hx4 hrx
    · exact new_entry F3 hd4 hrd
    · exact news_elt k4 N3 _ (List.mem_cons_of_mem _ List.mem_cons_self)
    · exact news_elt k4 N3 _ (by simp)
  clear N3 F3
  rename IntsAre _ (_ ++ _) => hIm
  have hmlen : (List.map (fun k' : Int => k'.fmod (10 ^ Int.toNat 6)) (List.take 6 nsv) ++ [20, 8, 31, 7, 42, 13, 2, 82]).length ≤ 14 := by simp; omega
  have hmr : ∀ m ∈ (List.map (fun k' : Int => k'.fmod (10 ^ Int.toNat 6)) (List.take 6 nsv) ++ [20, 8, 31, 7, 42, 13, 2, 82]), 0 ≤ m ∧ m < 1000000 := ms_range nsv
  generalize (List.map (fun k' : Int => k'.fmod (10 ^ Int.toNat 6)) (List.take 6 nsv) ++ [20, 8, 31, 7, 42, 13, 2, 82]) = ms at *
  have hst : 0 ≤ ms.sum.fmod 5 ∧ ms.sum.fmod 5 < 5 := ⟨Int.fmod_nonneg_of_pos _ (by decide), Int.fmod_lt_of_pos _ (by decide)⟩
  have hpc : 0 ≤ (ms.sum.fdiv 5).fmod 5 ∧ (ms.sum.fdiv 5).fmod 5 < 5 := ⟨Int.fmod_nonneg_of_pos _ (by decide), Int.fmod_lt_of_pos _ (by decide)⟩
  generalize ms.sum.fmod 5 = st at *
  generalize (ms.sum.fdiv 5).fmod 5 = pc at *
  k_steps
  refine Stop.mk ?_
  refine wpAny_For ?_ (by intro _; rfl)
  k_steps
  refine Stop.mk ?_
  rename Fr _ _ _ _ => F5
  rename News _ _ _ _ => N5
  rename_i D5 ws5 y1 y2 y3 y4 y5 y6 y7 y8 y9 y10 y11 y12 y13 y14 y15 y16 y17 l5 z1 lt5 T5 z2 lt6 z3 z4 z5
  have hD5 : z5.IsList D5 ws5.toArray := ⟨_, (N5 (D5, W.listOf ws5.toArray 0) (.tail _ (.tail _ (.tail _ (.tail _ (.head _)))))).1, rfl, _, rfl⟩
  refine for_list (vs := ws5.toArray) rfl ?hl (LawInv (l := l5) (x := x) (dx := dx) (D := D5) F5 N5 s₁.os st pc ms) ?h0 ?turnL ?doneL
  case hl => exact hD5
  case h0 => exact LawInv.init (s := { heap := z5, gens := s₁.gens, drawn := s₁.drawn, toks := tk, os := s₁.os }) F5 N5 hg0
  case turnL =>
    intro i hi s' h₁ tk₁ hJ hit hls hkk
    obtain ⟨hI6, m2, tvs, n2, vsz, nsz, ps, ks, tl, F6, N6, htl, hok, G6, hos6, hks, hH, hsq, hkl, hm2⟩ := hJ
    obtain ⟨sh, sg, sd, sk, so⟩ := s'
    dsimp only at hI6 F6 N6 G6 hos6 hkk
    obtain ⟨F7, oI, N7, hit'⟩ := fr_iter3 F5 F6 N6 hI6 (led_cls (by rw [dictI_eq]) htl.2) hkk hit
    have F8 := fr_known F7 hm2
    have hi' : i < ms.length := by rw [← hIm.length]; simpa using hi
    obtain ⟨tn, hv⟩ := hIm.get i _ (List.getElem?_eq_getElem hi')
    have he : ws5.toArray[i] = Value.int ms[i] tn := by
      have h9 : ws5.toArray[i]? = some (Value.int ms[i] tn) := by simpa using hv
      rw [Array.getElem?_eq_getElem hi] at h9; exact Option.some.inj h9
    rw [he]
    clear F6 N6 F7 hkk hit
    have hoc : oI.cls = .type "list_iterator" := iter_cls (N7 _ List.mem_cons_self).1 hit'
    have hdO := dictOk_I hv4 tkd (Value.int 0 y17)
    have hdc : (dictI hv4 tkd (Value.int 0 y17)).cls = .type "dict" := by rw [dictI_eq]
    generalize dictI hv4 tkd (Value.int 0 y17) = dO at *
    have hrest := rest_cls (ps := ps) (l := l5) (D := D5) (I := z5.objs.size) (dx := dx) (vsz := vsz) (wsv := ws5) (nsz := nsz) hoc hdc htl.2
    k_steps
    refine Stop.mk ?_
    rename_i h10 F10 N10
    have hx10 := (N10 _ (.tail _ (.head _))).1
    have hd10 := (N10 _ (.tail _ (.tail _ (.head _)))).1
    refine method_row (kf w) (X2.keeps F10.keep) (row_inst hx10 hd10) (kf w).pc (kf w).t97 (.inl rfl) hdO.pc ?_
    k_steps
    refine Stop.mk ?_
    have hx100 : x ≠ 100 := by
      intro e
      obtain ⟨_, _, _, _, e2, _⟩ := (madeL_of (M := model PG w) X2 (looks_mro X2) (madeK w)).obj
      have e3 := (N10 _ (.tail _ (.head _))).2.2
      rw [show (x, rowO dx (rowI tvs) n2).1 = 100 from e, e2] at e3
      cases e3
    have htvl : tvs.length < 14 ∧ (textOf tvs).length = tvs.length := by
      have e1 := text_len (tvs := tvs) (fun t ht => (htl.1 t ht).2)
      have e2 := hH.len.1
      rw [len_C] at e2
      omega
    have hszr : (rowI tvs).size = tvs.length := by simp
    refine count_c w x dx (rowI tvs) n2 dO _ hx10 hd10 hx100 (by omega) (ExcName.means s₀.heap) mg mb _ _ _ _ _ h₀ _ _ _ _ B2 F10 X2 (fun _ h => nomatch h) T2 rfl ?_
    intro t11 h11 tk11 k11
    have F11 := F10.keeps k11
    have N11 := news_elt k11 N10
    clear F10 N10 hx10 hd10
    dsimp only
    rw [hszr]
    k_steps
    refine Stop.mk ?_
    rename_i h12 F12 N12
    dsimp only at F12
    have hx12 := (N12 _ (.tail _ (.head _))).1
    have hd12 := (N12 _ (.tail _ (.tail _ (.head _)))).1
    refine method_row (kf w) (X2.keeps F12.keep) (row_inst hx12 hd12) (kf w).push (kf w).t45 (.inl rfl) hdO.push ?_
    have hlk0 : 0 ≤ (st + pc * (tvs.length : Int)).fmod 5 ∧ (st + pc * (tvs.length : Int)).fmod 5 < 5 := ⟨Int.fmod_nonneg_of_pos _ (by decide), Int.fmod_lt_of_pos _ (by decide)⟩
    revert F12
    generalize hlk : (st + pc * (tvs.length : Int)).fmod 5 = lk at hlk0 ⊢
    intro F12
    k_steps
    refine Stop.mk ?_
    refine letter_c w ms[i] lk _ _ (hmr _ (List.getElem_mem hi')) hlk0 (ExcName.means s₀.heap) mg mb _ _ _ _ _ h₀ _ _ _ _ _ B2 F12 X2 (fun _ h => nomatch h) T2 rfl ?_
    intro v13 h13 tk13 k13 hv13
    obtain ⟨t13, rfl⟩ := hv13
    have hx0 : 0 ≤ (lk + 1 + ms[i].fmod 4).fmod 5 ∧ (lk + 1 + ms[i].fmod 4).fmod 5 < 5 := ⟨Int.fmod_nonneg_of_pos _ (by decide), Int.fmod_lt_of_pos _ (by decide)⟩
    generalize hxx : (lk + 1 + ms[i].fmod 4).fmod 5 = xx at hx0 ⊢
    have hch : (letterS xx).length = 1 := rfl
    have hchC : C (letterS xx) = [97 + xx.toNat] := C_letter xx
    generalize letterS xx = ch at hch hchC ⊢
    have F13 := F12.keeps k13
    have N13 := news_elt k13 N12
    clear F12 N12 hx12 hd12
    dsimp only
    k_steps
    refine Stop.mk ?_
    have hx13 := (N13 _ (.tail _ (.head _)))
    have hd13 := (N13 _ (.tail _ (.tail _ (.head _)))).1
    have hdx : dx ≠ x := Nat.ne_of_lt hdx4
    refine push_c w x dx (rowI tvs) n2 dO _ (Str.ofString "") ch _ _ hx13.1 hd13 hdx hdO (by omega) (ExcName.means s₀.heap) mg mb _ _ _ _ _ h₀ _ _ _ _ B2 F13 X2 (fun p hp => by rw [List.mem_singleton.mp hp]; exact hx13) T2 rfl ?_
    intro T14 h14 tk14 hT0 hT14 hx14 k14
    dsimp only at hT0 hT14 hx14 k14
    have F14 := fr_but F13 hx13.2 k14
    have N14 := news_push (u := (T14, tk, ch, t13)) N13 F13 hx13 hrest hT0 hT14 hx14 k14
    have htl14 := tl_push (tx := tk) (y := ch) (ty := t13) (T := T14) htl hch
    have hlen14 : (tvs ++ [(T14, tk, ch, t13)]).length = tvs.length + 1 := by simp
    have hC14 : C (textOf (tvs ++ [(T14, tk, ch, t13)])) = C (textOf tvs) ++ [97 + xx.toNat] := by rw [text_snoc]; exact congrArg _ hchC
    have htx14 : (textOf (tvs ++ [(T14, tk, ch, t13)])).length = tvs.length + 1 := by rw [text_len (fun t ht => (htl14.1 t ht).2), hlen14]
    have hpop := pop_law hsq hC14
    generalize hU : tvs ++ [(T14, tk, ch, t13)] = U at N14 htl14 hlen14 hC14 htx14 hpop
    generalize hTL : (T14, { cls := Value.type "tuple", data := Data.seq #[.str (Str.ofString "") tk, .str ch t13] : Obj }) :: tl = tl2 at N14 htl14
    clear F13 N13 hx13 hd13 hrest hT14 hx14 k14
    have hrest := rest_cls (ps := ps) (l := l5) (D := D5) (I := z5.objs.size) (dx := dx) (vsz := vsz) (wsv := ws5) (nsz := nsz) hoc hdc htl14.2
    dsimp only
    k_steps
    refine Stop.mk ?_
    have hx14 := (N14 _ (.tail _ (.head _)))
    have hd14 := (N14 _ (.tail _ (.tail _ (.head _)))).1
    refine method_row (kf w) (X2.keeps F14.keep) (row_inst hx14.1 hd14) (kf w).pop (kf w).t53 (.inl rfl) hdO.pop ?_
    k_steps
    refine Stop.mk ?_
    refine method_row (kf w) (X2.keeps F14.keep) (row_inst hx14.1 hd14) (kf w).pc (kf w).t97 (.inl rfl) hdO.pc ?_
    k_steps
    refine Stop.mk ?_
    have hszr2 : (rowI U).size = U.length := by simp
    refine count_c w x dx (rowI U) (n2 + 1) dO _ hx14.1 hd14 hx100 (by omega) (ExcName.means s₀.heap) mg mb _ _ _ _ _ h₀ _ _ _ _ B2 F14 X2 (fun _ h => nomatch h) T2 rfl ?_
    intro t15 h15 tk15 k15
    have F15 := F14.keeps k15
    have N15 := news_elt k15 N14
    clear F14 N14 hx14 hd14
    dsimp only
    rw [hszr2]
    k_steps
    refine Stop.mk ?_
    have hx15 := (N15 _ (.tail _ (.head _)))
    have hd15 := (N15 _ (.tail _ (.tail _ (.head _)))).1
    have h69 := (N15 _ (.tail _ (.tail _ (.tail _ (.tail _ (.tail _ (.head _)))))))
    have hd69 : dx ≠ 69 := fun e => dict_ne_none hdc (hd15.symm.trans (e ▸ h69.1))
    refine str_call w x dx U (n2 + 1) dO _ ps hx15.1 hd15 hd69 (row_items N15 htl14 (fun p hp => .tail _ (.tail _ (.tail _ (.tail _ (.tail _ (.tail _ hp))))))) (by omega) hok G6 (ExcName.means s₀.heap) mg mb _ _ _ _ _ h₀ _ _ _ _ B2 F15 X2 (fun p hp => by rw [List.mem_singleton.mp hp]; exact h69) T2 rfl ?_
    rintro t16 ⟨h16, g16, d16, tk16, os16⟩ ps16 hok16 h69' k16 G16 hos16
    dsimp only at h69' k16 G16 hos16 ⊢
    have F16 := fr_but F15 h69.2 k16
    have N16 := news_one (pre := [(z5.objs.size, oI), (x, rowO dx (rowI U) (n2 + 1)), (dx, dO), (l5, W.listOf vsz.toArray nsz), (D5, W.listOf ws5.toArray 0)]) (b := 69) (ob := tabObj ps) (post := tl2) N15 (rest_none hoc hdc htl14.2) k16 h69'
    dsimp only [List.cons_append, List.nil_append] at N16
    clear F15 N15 hx15 hd15 h69 h69' k16 hrest
    k_steps
    refine Stop.mk ?_
    refine twice_c w (textOf U) t16 (by omega) (ExcName.means s₀.heap) mg mb _ _ _ _ _ h₀ _ _ _ _ _ B2 F16 X2 (fun _ h => nomatch h) T2 rfl ?_
    intro v17 h17 tk17 k17 hv17
    obtain ⟨t17, rfl⟩ := hv17
    have F17 := F16.keeps k17
    have N17 := news_elt k17 N16
    clear F16 N16
    obtain ⟨kk, hkk, hkl2, hsq2, hCU, hCd⟩ := hpop
    rw [hkk]
    dsimp only
    k_steps
    refine Stop.mk ?_
    have hx17 := (N17 _ (.tail _ (.head _)))
    have hd17 := (N17 _ (.tail _ (.tail _ (.head _)))).1
    have hl17 := (N17 _ (.tail _ (.tail _ (.tail _ (.head _))))).1
    have hmE : (U.length : Int) - (kk : Int) = ((U.length - kk : Nat) : Int) := by omega
    rw [hmE]
    refine pop_c w x dx (refsOf U) (n2 + 1) (U.length - kk) _ dO _ hx17.1 hd17 hdx (by simp; omega) (by simp) (ExcName.means s₀.heap) mg mb _ _ _ _ _ h₀ _ _ _ _ B2 F17 X2 (fun p hp => by rw [List.mem_singleton.mp hp]; exact hx17) T2 rfl ?_
    intro P n18 h18 tk18 hP0 hP18 hx18 k18
    dsimp only at hP0 hP18 hx18 k18
    have hPl : P ≠ l5 := fun e => by rw [e] at hP0; rw [hP0] at hl17; cases hl17
    have F18 := fr_but F17 hx17.2 k18
    have N18a := news_one (pre := [(z5.objs.size, oI)]) (b := x) (ob := rowO dx (rowI U) (n2 + 1)) N17 (rest_row hoc hdc htl14.2) k18 hx18
    have N18 : News h₀ _ h18 ((P, W.listOf ((refsOf U).drop (U.length - kk)).toArray 0) :: (z5.objs.size, oI) :: (x, rowO dx ((refsOf U).take (U.length - kk)).toArray n18) :: (dx, dO) :: (l5, W.listOf vsz.toArray nsz) :: (D5, W.listOf ws5.toArray 0) :: (69, tabObj ps16) :: tl2) := fun p hp => by
      rcases List.mem_cons.mp hp with rfl | hp
      · exact new_entry F17 hP0 hP18
      · exact N18a p hp
    have htlV := tl_sub (tvs' := U.take (U.length - kk)) htl14 fun t ht => List.mem_of_mem_take ht
    have htlW := tl_sub (tvs' := U.drop (U.length - kk)) htl14 fun t ht => List.mem_of_mem_drop ht
    have hCV : C (textOf (U.take (U.length - kk))) = (C (textOf U)).take (U.length - kk) := text_take (fun t ht => (htl14.1 t ht).2) _
    have hCW : C (textOf (U.drop (U.length - kk))) = (C (textOf U)).drop (U.length - kk) := text_drop (fun t ht => (htl14.1 t ht).2) _
    have hlV : (U.take (U.length - kk)).length = U.length - kk := by simp
    have hlW : (U.drop (U.length - kk)).length = kk := by simp; omega
    have htxV : (textOf (U.take (U.length - kk))).length = U.length - kk := by rw [text_len (fun t ht => (htlV.1 t ht).2), hlV]
    have hUl : (textOf U).length = U.length := by omega
    rw [hUl] at hsq2 hCU hCd hkl2
    rw [← hCV] at hsq2 hCU hCd
    rw [← hCW] at hCd
    have eV : (refsOf U).take (U.length - kk) = refsOf (U.take (U.length - kk)) := by simp [refsOf, List.map_take]
    have eW : (refsOf U).drop (U.length - kk) = refsOf (U.drop (U.length - kk)) := by simp [refsOf, List.map_drop]
    rw [eV, eW] at N18
    clear F17 N17 N18a hx17 hd17 hl17 hx18 hP18 k18
    generalize hVd : U.take (U.length - kk) = V at N18 htlV hCV hlV htxV hsq2 hCU hCd
    generalize hWd : U.drop (U.length - kk) = W9 at N18 htlW hCW hlW hCd
    dsimp only
    k_steps
    rename_i h19 F19 N19
    have hszW : (refsOf W9).toArray.size = W9.length := by simp
    refine kun_lenL (k := (kk : Int)) ⟨_, (N19 _ (.head _)).1, rfl, _, rfl⟩ (by rw [hszW, hlW]) (by omega) ?_
    k_steps
    refine Stop.mk ?_
    have hl19 := N19 _ (.tail _ (.tail _ (.tail _ (.tail _ (.head _)))))
    refine append_at hl19.1 (hsz := ?hza) ?_
    case hza => have := hks.length; rw [sizeLine_eq]; simp; omega
    intro h20 sb20 hl20
    have F20 := F19.change sb20 hl19.2.1 hl19.2.2
    have hDl : D5 ≠ l5 := Nat.ne_of_lt lt5.2.2.1
    have N20 := news_one2 (pre := [(P, W.listOf (refsOf W9).toArray 0), (z5.objs.size, oI), (x, rowO dx (refsOf V).toArray n18), (dx, dO)]) (b := l5) (ob := W.listOf vsz.toArray nsz) (post := (D5, W.listOf ws5.toArray 0) :: (69, tabObj ps16) :: tl2) N19 (rest_list hoc hdc htl14.2 hPl hDl) (fun c o hc e => sb20.extBut c o hc e) hl20
    dsimp only [List.cons_append, List.nil_append] at N20
    clear F19 N19 hl19 hl20 sb20
    dsimp only
    generalize hvk : Value.int (kk : Int) _ = vk at N20 ⊢
    have hks20 : IntsAre (vsz ++ [vk]) (ks ++ [(kk : Int)]) := by rw [← hvk]; exact hks.append (.cons _ _ .nil)
    rw [List.push_toArray] at N20
    k_steps
    refine Stop.mk ?_
    have hx20 := (N20 _ (.tail _ (.tail _ (.head _))))
    have hd20 := (N20 _ (.tail _ (.tail _ (.tail _ (.head _))))).1
    have h69 := (N20 _ (.tail _ (.tail _ (.tail _ (.tail _ (.tail _ (.tail _ (.head _))))))))
    refine str_call w x dx V n18 dO _ ps16 hx20.1 hd20 hd69 (row_items N20 htlV (fun p hp => .tail _ (.tail _ (.tail _ (.tail _ (.tail _ (.tail _ (.tail _ hp)))))))) (by omega) hok16 G16 (ExcName.means s₀.heap) mg mb _ _ _ _ _ h₀ _ _ _ _ B2 F20 X2 (fun p hp => by rw [List.mem_singleton.mp hp]; exact h69) T2 rfl ?_
    rintro t21 ⟨h21, g21, d21, tk21, os21⟩ ps21 hok21 h69' k21 G21 hos21
    dsimp only at h69' k21 G21 hos21 ⊢
    have F21 := fr_but F20 h69.2 k21
    have N21 := news_one (pre := [(P, W.listOf (refsOf W9).toArray 0), (z5.objs.size, oI), (x, rowO dx (refsOf V).toArray n18), (dx, dO), (l5, W.listOf (vsz ++ [vk]).toArray (nsz + 1)), (D5, W.listOf ws5.toArray 0)]) (b := 69) (ob := tabObj ps16) (post := tl2) N20 (rest_none2 hoc hdc htl14.2) k21 h69'
    dsimp only [List.cons_append, List.nil_append] at N21
    clear F20 N20 hx20 hd20 h69 h69' k21
    k_steps
    refine Stop.mk ?_
    rename_i h22 F22 N22
    refine plain_c w (textOf V) t21 (by omega) (ExcName.means s₀.heap) mg mb _ _ _ _ _ h₀ _ _ _ _ _ B2 F22 X2 (fun _ h => nomatch h) T2 rfl ?_
    intro v23 h23 tk23 k23 hv23
    rw [hv23, plainB_of hsq2]
    have F23 := F22.keeps k23
    have N23 := news_elt k23 N22
    clear F22 N22
    dsimp only
    k_steps
    refine Stop.mk ?_
    refine LCp.ListComp_P (F₀ := F23) (by with_unfolding_all rfl) (by decide) (by rfl) (by decide) (by rfl) (by rfl) (by decide) ?_
    k_steps
    refine Stop.mk ?_
    refine LCp.SrcLP.ledger (by rfl) F23 N23 (.head _) ?hszS ?_
    case hszS => rw [hszW, sizeLine_eq]; omega
    intro g'
    rw [hszW]
    refine parts_rest (fun t ht => .tail _ (.tail _ (.tail _ (.tail _ (.tail _ (.tail _ (.tail _ (htlW.1 t ht).1))))))) (.inr ⟨_, .head _, rfl, _, rfl⟩) ?_
    intro D24 h24 tk24 F24 N24 off24
    clear F23 N23
    dsimp only
    k_steps
    refine Stop.mk ?_
    refine join_list (D := D24) (items := (partsOf W9).toArray) (ys := W9.map fun t => t.2.2.1) ⟨_, (N24 _ (.head _)).1, rfl, _, rfl⟩ (parts_are W9) ?hok24 ?_
    case hok24 => rw [parts_sum fun t ht => (htlW.1 t ht).2, show (Str.ofString "").length = 0 from rfl]; omega
    intro t25 tk25
    dsimp only
    k_steps
    · rename_i h26 t26 k26 F26 N26 e26 c26
      exact (parts_last hlW (by omega) hCd c26).elim
    · rename_i h26 t26 k26 F26 N26 e26 c26
      refine ⟨hit' _ (N26 _ (.tail _ (.tail _ (.head _)))).1, _, V, n18, vsz ++ [vk], nsz + 1, ps21, ks ++ [(kk : Int)], tl2, F26, fun p hp => N26 p (.tail _ (.tail _ (.tail _ hp))), htlV, hok21, G21, hos21.trans (hos16.trans hos6), hks20, hist_step hi' hH htvl.2 hlk hxx hx0 hC14 hCU (by omega), hsq2, by simp [hkl], ?_⟩
      intro z hz
      simp only [stored, List.mem_cons, List.not_mem_nil, or_false, not_or] at hz
      obtain ⟨z1, z2, z3, z4⟩ := hz
      dsimp only
      rw [if_neg z4, if_neg z3, if_neg z2, if_neg z1, if_neg (by simp [stored, z1, z2, z3, z4])]
    · rename_i h26 t26 k26 F26 N26 e26 c26
      exact hit' _ (N26 _ (.tail _ (.tail _ (.head _)))).1
    · rename_i h26 t26 k26 F26 N26 e26 c26
      exact ⟨_, (N26 _ (.tail _ (.tail _ (.tail _ (.tail _ (.tail _ (.tail _ (.head _)))))))).1, rfl, _, rfl⟩
  case doneL =>
    intro s' h₁ tk₁ hJ hkk
    obtain ⟨hI6, m2, tvs, n2, vsz, nsz, ps, ks, tl, F6, N6, htl, hok, G6, hos6, hks, hH, hsq, hkl, hm2⟩ := hJ
    obtain ⟨sh, sg, sd, sk, so⟩ := s'
    dsimp only at hI6 F6 N6 G6 hos6 hkk
    obtain ⟨F7, N7⟩ := fr_done3 F5 F6 N6 hI6 (led_cls (by rw [dictI_eq]) htl.2) hkk
    have F8 := fr_known F7 hm2
    have hdc : (dictI hv4 tkd (Value.int 0 y17)).cls = .type "dict" := by rw [dictI_eq]
    have hszD : ws5.toArray.size = ms.length := by rw [← hIm.length]; simp
    rw [hszD] at hkl hH
    rw [List.take_length] at hH
    generalize dictI hv4 tkd (Value.int 0 y17) = dO at *
    clear F6 F7 N6 hkk
    have htvl : tvs.length ≤ 14 ∧ (textOf tvs).length = tvs.length := by
      have e1 := text_len (tvs := tvs) (fun t ht => (htl.1 t ht).2)
      have e2 := hH.len.1
      rw [len_C] at e2
      omega
    dsimp only
    k_steps
    refine Stop.mk ?_
    have hx8 := (N7 _ (.head _))
    have hd8 := (N7 _ (.tail _ (.head _))).1
    have h69 := (N7 _ (.tail _ (.tail _ (.tail _ (.tail _ (.head _))))))
    have hd69 : dx ≠ 69 := fun e => dict_ne_none hdc (hd8.symm.trans (e ▸ h69.1))
    refine str_call w x dx tvs n2 dO _ ps hx8.1 hd8 hd69 (row_items N7 htl (fun p hp => .tail _ (.tail _ (.tail _ (.tail _ (.tail _ hp)))))) (by omega) hok G6 (ExcName.means s₀.heap) mg mb _ _ _ _ _ h₀ _ _ _ _ B2 F8 X2 (fun p hp => by rw [List.mem_singleton.mp hp]; exact h69) T2 rfl ?_
    rintro t9 ⟨h9, g9, d9, tk9, os9⟩ ps9 hok9 h69' k9 G9 hos9
    dsimp only at h69' k9 G9 hos9 ⊢
    have F9 := fr_but F8 h69.2 k9
    have N9 := news_one (pre := [(x, rowO dx (rowI tvs) n2), (dx, dO), (l5, W.listOf vsz.toArray nsz), (D5, W.listOf ws5.toArray 0)]) (b := 69) (ob := tabObj ps) (post := tl) N7 (rest_none3 hdc htl.2) k9 h69'
    dsimp only [List.cons_append, List.nil_append] at N9
    clear F8 N7 hx8 hd8 h69 h69' k9
    k_steps
    refine Stop.mk ?_
    refine draws_c w (textOf tvs) l5 vsz ks st pc _ _ _ hks (by omega) (by omega) _ hH hst hpc _ ⟨_, (N9 _ (.tail _ (.tail _ (.head _)))).1, rfl, _, rfl⟩ (ExcName.means s₀.heap) mg mb _ _ _ _ _ h₀ _ _ _ _ B2 F9 X2 (fun _ h => nomatch h) T2 rfl ?_
    intro v10 h10 tk10 k10 hv10
    obtain ⟨T10, R10, tt10, wsr, rfl, hT0, hR0, hT10, hR10, hIr⟩ := hv10
    dsimp only at hT0 hR0 k10
    have F10 := F9.keeps k10
    have N10 : News h₀ _ h10 [(T10, { cls := .type "tuple", data := .seq #[.str (Str.ofString "") tt10, .ref R10] }), (R10, W.listOf wsr.toArray 0), (D5, W.listOf ws5.toArray 0), (69, tabObj ps9)] := fun p hp => by
      simp only [List.mem_cons, List.not_mem_nil, or_false] at hp
      rcases hp with rfl | rfl | rfl | rfl
      · exact new_entry F9 hT0 hT10
      · exact new_entry F9 hR0 hR10
      · exact news_elt k10 N9 _ (.tail _ (.tail _ (.tail _ (.head _))))
      · exact news_elt k10 N9 _ (.tail _ (.tail _ (.tail _ (.tail _ (.head _)))))
    clear F9 N9 hT0 hR0 hT10 hR10 k10
    dsimp only
    k_steps
    refine Stop.mk ?_
    rename_i D11 h11 k11 o11 D12 h12 F12 N12 l12
    refine eq_pair (N12 _ (.tail _ (.tail _ (.head _)))).1 (N12 _ (.head _)).1 (N12 _ (.tail _ (.tail _ (.tail _ (.head _))))).1 (N12 _ (.tail _ (.head _))).1 hIr (by assumption) ?hu ?_
    case hu => first | units_room | exact Nat.le_of_ble_eq_true rfl
    dsimp only
    refine law_end F12 hrel h69 C73 (N12 _ (.tail _ (.tail _ (.tail _ (.tail _ (.tail _ (.head _))))))).1 ?hr ?hp (hos9.trans hos6) G9
    case hr => intro _; rfl
    case hp => first | rfl | wrow_post
end
end
end Mine

open PySem.Calls
set_option maxRecDepth 100000 in
set_option maxHeartbeats 8000000 in
theorem PySem.Challenge.cw_wo0022_01_holds : PySem.Challenge.rw_wo0022_01.Holds :=
  Mine.hd Mine.walk
