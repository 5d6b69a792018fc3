import PyProof.Rows.All
import Wide.All
import OpenK.AllK
import Wide.FinOn
import PySem.Challenge.RW_pg0196_01
set_option Elab.async false
set_option linter.all false
set_option genSizeOf false
set_option genSizeOfSpec false
set_option genInjectivity false
set_option compiler.extract_closed false
section
open PySem PySem.W PyProof.Rows
namespace Mine
set_option maxRecDepth 100000 in
set_option synthInstance.maxSize 1 in
set_option maxHeartbeats 8000000 in
open_top hd for PySem.Challenge.rw_pg0196_01
end Mine
end
section
open PySem PySem.W PyProof.Rows
namespace Mine
/-- one value stands for all -/
theorem henk1 {α : Type} [hn : Nonempty α] (P : α → Prop) : ∃ x, P x → ∀ y, P y := by
  by_cases h : ∀ y, P y
  · exact ⟨Classical.choice hn, fun _ => h⟩
  · obtain ⟨y, hy⟩ := Classical.not_forall.mp h
    exact ⟨y, fun q => absurd q hy⟩
theorem neW : Nonempty World := ⟨aWorld 0⟩
theorem neA : Nonempty Around := ⟨{}⟩
theorem neS : Nonempty Shared := ⟨{}⟩
structure Stp (P : Prop) : Prop where
  get : P
theorem stp_with {P G : Prop} (p : P) (m : Stp P → G) : G := m ⟨p⟩
noncomputable def mkCut {T P : Prop} (h : Stp P → T) : (@Subtype Prop fun P => P → T) := ⟨P, fun p => h ⟨p⟩⟩
noncomputable def mkCut2 {T P0 P1 : Prop} (h : Stp P0 → Stp P1 → T) : (@Subtype (Prop × Prop) fun P => P.1 → P.2 → T) := ⟨(P0, P1), fun p q => h ⟨p⟩ ⟨q⟩⟩
noncomputable def mkCut3 {T P0 P1 P2 : Prop} (h : Stp P0 → Stp P1 → Stp P2 → T) : (@Subtype (Prop × Prop × Prop) fun P => P.1 → P.2.1 → P.2.2 → T) := ⟨(P0, P1, P2), fun p q r => h ⟨p⟩ ⟨q⟩ ⟨r⟩⟩
theorem allLt_ne {d : Addr} {l : List (Addr × Obj)} (h : AllLt d l) : ∀ p ∈ l, p.1 ≠ d := fun p hp => Nat.ne_of_lt (kst_ltOf h p hp)
theorem acons {dq : Addr} {p : Addr × Obj} {lq : List (Addr × Obj)} (hkx : p.1 ≠ dq) (hky : ∀ x ∈ lq, x.1 ≠ dq) : ∀ x ∈ p :: lq, x.1 ≠ dq := List.forall_mem_cons.mpr ⟨hkx, hky⟩
theorem inKeeps {Kq : Frag} {h0 hp : Heap} {Lq : Addr} {mq : Str → Option Value} (hkz : Kq.In h0) (hkw : Fr h0 Lq hp mq) : Kq.In hp := hkz.keeps hkw.keep
theorem alln {dq : Addr} {lq : List (Addr × Obj)} (hq : AllLt dq lq) : ∀ p ∈ lq, p.1 ≠ dq := allLt_ne hq
theorem andl {aq bq : Prop} (hq : aq ∧ bq) : aq := hq.1
theorem andr {aq bq : Prop} (hq : aq ∧ bq) : bq := hq.2
theorem nn {aq bq : Nat} (hq : aq ≠ bq) : aq ≠ bq := hq
theorem nlt {aq bq : Nat} (hq : aq < bq) : aq ≠ bq := Nat.ne_of_lt hq
theorem ngt {aq bq : Nat} (hq : bq < aq) : aq ≠ bq := Nat.ne_of_gt hq
theorem nsy {aq bq : Nat} (hq : bq ≠ aq) : aq ≠ bq := hq.symm
theorem nle {aq bq : Nat} (hq : aq < bq) : aq ≤ bq := Nat.le_of_lt hq
theorem lt_up {aq bq cq : Nat} (hq : aq < bq) (hr : bq ≤ cq) : aq < cq := Nat.lt_of_lt_of_le hq hr
theorem lt_up2 {aq bq cq : Nat} (hq : aq < bq) (hr : bq < cq) : aq < cq := Nat.lt_trans hq hr
theorem lt_s {aq bq kq : Nat} (hq : aq < bq) : aq < bq + kq := Nat.lt_of_lt_of_le hq (Nat.le_add_right _ _)
theorem lt_via {aq bq cq : Nat} (hq : aq < bq) (hr : bq < cq) : aq < cq := Nat.lt_trans hq hr
theorem le_lit {aq bq cq : Nat} (hq : aq ≤ bq) (hr : Nat.ble bq cq = true) : aq ≤ cq := Nat.le_trans hq (Nat.le_of_ble_eq_true hr)
theorem mh {T : Type} {aq : T} {lq : List T} : aq ∈ aq :: lq := List.Mem.head _
theorem mt {T : Type} {aq bq : T} {lq : List T} (hq : aq ∈ lq) : aq ∈ bq :: lq := List.Mem.tail _ hq
theorem ml {T : Type} {aq : T} {lq kq : List T} (hq : aq ∈ lq) : aq ∈ lq ++ kq := List.mem_append_left _ hq
theorem mr {T : Type} {aq : T} {lq kq : List T} (hq : aq ∈ kq) : aq ∈ lq ++ kq := List.mem_append_right _ hq
theorem sc {T : Type} {Pq : T → Prop} {aq : T} {lq : List T} (hq : Pq aq) (hr : ∀ x ∈ lq, Pq x) : ∀ x ∈ aq :: lq, Pq x := List.forall_mem_cons.mpr ⟨hq, hr⟩
theorem sa {T : Type} {Pq : T → Prop} {lq kq : List T} (hq : ∀ x ∈ lq, Pq x) (hr : ∀ x ∈ kq, Pq x) : ∀ x ∈ lq ++ kq, Pq x := List.forall_mem_append.mpr ⟨hq, hr⟩
theorem five {P : Nat → Prop} (h0 : P 0) (h1 : P 1) (h2 : P 2) (h3 : P 3) (h4 : P 4) (i : Nat) (h : i < 5) : P i := by
  cases i with
  | zero => exact h0
  | succ i => cases i with
    | zero => exact h1
    | succ i => cases i with
      | zero => exact h2
      | succ i => cases i with
        | zero => exact h3
        | succ i => cases i with
          | zero => exact h4
          | succ i => exact (Nat.not_lt_zero i (Nat.lt_of_succ_lt_succ (Nat.lt_of_succ_lt_succ (Nat.lt_of_succ_lt_succ (Nat.lt_of_succ_lt_succ (Nat.lt_of_succ_lt_succ h)))))).elim
theorem five_out {P : Nat → Prop} (h : ∀ i, i < 5 → P i) (ho : ∀ i, P (i + 5)) (i : Nat) : P i := by
  by_cases h5 : i < 5
  · exact h i h5
  · exact Nat.sub_add_cancel (Nat.not_lt.mp h5) ▸ ho (i - 5)
theorem cnt_down {n i : Nat} (h : i < n) : n + 1 - (i + 1) < n + 1 - i := by omega
theorem len_le2 {T : Type} {l : List T} (h : l.length ≤ 2) : l = [] ∨ (∃ a, l = [a]) ∨ (∃ a b, l = [a, b]) := by
  cases l with
  | nil => exact .inl rfl
  | cons a l => cases l with
    | nil => exact .inr (.inl ⟨a, rfl⟩)
    | cons b l => cases l with
      | nil => exact .inr (.inr ⟨a, b, rfl⟩)
      | cons c l => exact absurd h (Nat.not_le.mpr (Nat.le_add_left 3 l.length))
noncomputable def Hold (P : Prop) : Prop := P
theorem hold {P : Prop} (h : Hold P) : P := h
theorem unhold {P : Prop} (h : P) : Hold P := h
end Mine
end
local macro_rules | `(tactic| k_extra "x:mem") => `(tactic| first | with_reducible assumption | with_reducible exact Mine.mh | exact Mine.mh | apply Mine.mt <;> k_extra "x:mem" | apply Mine.ml <;> k_extra "x:mem" | apply Mine.mr <;> k_extra "x:mem")
local macro_rules | `(tactic| k_extra "x:sub") => `(tactic| first | exact List.forall_mem_nil _ | apply Mine.sc <;> (first | k_extra "x:mem" | k_extra "x:sub") | apply Mine.sa <;> k_extra "x:sub" | intro p hp <;> k_extra "x:mem")
local macro_rules | `(tactic| k_extra "x:lt") => `(tactic| with_reducible first | assumption | (apply Mine.andl <;> iterate 11 (first | done | assumption | apply Mine.andr)) <;> done)
local macro_rules | `(tactic| k_extra "n:lt") => `(tactic| first | assumption | exact Nat.lt_succ_self _ | apply Mine.lt_up <;> assumption | apply Mine.lt_up2 <;> assumption | (show _ < (_ + _ : Nat)) <;> apply Mine.lt_s <;> k_extra "n:lt" | exact Mine.lt_via (by assumption) (by k_extra "n:lt"))
local macro_rules | `(tactic| k_ne) => `(tactic| apply Mine.nn <;> (try dsimp only) <;> first | with_reducible first | assumption | apply Mine.nsy <;> assumption | apply Mine.nlt <;> k_extra "x:lt" | apply Mine.ngt <;> k_extra "x:lt" | (repeat (rename @Ne Nat _ _ => hq') <;> clear hq') <;> omega | omega)
local macro_rules | `(tactic| k_extra "n:c") => `(tactic| first | with_reducible k_extra "n:lt" | apply Mine.nlt <;> with_reducible k_extra "n:lt" | apply Mine.ngt <;> with_reducible k_extra "n:lt" | apply Mine.nle <;> with_reducible k_extra "n:lt" | exact Mine.le_lit (by assumption) rfl | k_ne | omega)
local macro_rules | `(tactic| k_all) => `(tactic| first | assumption | (apply Mine.alln <;> iterate 19 (first | done | assumption | apply Mine.andr)) <;> done | refine Mine.acons (by k_ne) ?_ <;> k_all)
local macro_rules | `(tactic| walk_at "ite") => `(tactic| with_reducible first | refine ite_pos (by decide) ?_ | refine ite_neg (by decide) ?_)
local macro_rules | `(tactic| k_in) => `(tactic| first | k_in_fast | apply Mine.inKeeps <;> k_asm)
section
theorem Mine.off_W1 : True := by (w_top off; trivial)
open PySem PySem.W PyProof.Rows
namespace Mine
noncomputable abbrev At (d : Nat) (gd : Option (List Code)) (fr : List Env) : Around := { handled := none, depth := d + 300, frames := some fr, guards := gd, units := 4 * d }
noncomputable abbrev entry (h : Int) (n : String) (t : Tok) (v : Value) : DictEntry := ⟨h, .str (Str.ofString n) t, v⟩
noncomputable abbrev tupObj (vs : List Value) (n : Nat) : Obj := { cls := .type "tuple", data := .seq vs.toArray n }

/-- a Whitespace instance, its dict, its two tuples -/
structure WsH where
  dx : Addr
  a1 : Addr
  a2 : Addr
  h1 : Int
  h2 : Int
  h3 : Int
  h4 : Int
  h5 : Int
  t1 : Tok
  t2 : Tok
  t3 : Tok
  t4 : Tok
  t5 : Tok
  t6 : Tok
  t7 : Tok
  t8 : Tok
  t9 : Tok
  n1 : Nat
  n2 : Nat
  raw : Str
  cv : List Value
noncomputable abbrev wsLed (x : Addr) (z : WsH) (b n nt : Int) (sp : Bool) : List (Addr × Obj) :=
  [(x, instObj 132 z.dx), (z.dx, dictOf [entry z.h1 "raw" z.t1 (.str z.raw z.t6), entry z.h2 "n" z.t2 (.int n z.t7), entry z.h3 "nt" z.t3 (.int nt z.t8), entry z.h4 "norm" z.t4 (.ref z.a1), entry z.h5 "is_simple" z.t5 (.bool sp)] 5),
      (z.a1, tupObj [.ref z.a2, .int b z.t9] z.n1), (z.a2, tupObj z.cv z.n2)]
/-- the instance at x says: k columns counted, b blanks behind, n signs, nt tabs -/
noncomputable def IsWs (news : List (Addr × Obj)) (x : Addr) (k b n nt : Nat) : Prop :=
  ∃ z : WsH, z.cv.length = k ∧ k ≤ 2 ∧ b ≤ 5 ∧ n ≤ 12 ∧ nt ≤ 5 ∧ ∀ p ∈ wsLed x z b n nt (decide (k ≤ 1)), p ∈ news

theorem news_app {h₀ h : Heap} {L : Addr} {a b : List (Addr × Obj)} (N : News h₀ L h b) (hs : ∀ p ∈ a, p ∈ b) : News h₀ L h (a ++ b) :=
  fun p hp => (List.mem_append.mp hp).elim (fun q => N p (hs p q)) (N p)

theorem iter_rangeNil {prog : Program} {w : World} {A : Around} {E : Value → Shared → Prop} {s : Shared} {env : Env} {h₀ : Heap} {x : Str} {body : List Stmt} {Q : Flow → Shared → Prop} {r : Addr} {a₀ b₀ : Int} {t₀ u₀ v₀ : Tok} {m₀ : Str → Option Value} {news : List (Addr × Obj)}
    (hh : A.handled = none) (hr : IsRange s.heap r a₀ b₀ 1 t₀ u₀ v₀) (F : Fr h₀ env.locals s.heap m₀) (N : News h₀ env.locals s.heap news) (hsmall : Builtin.Range.small a₀ b₀ 1 = true) (hn : Builtin.Range.rangeSize a₀ b₀ 1 = ((0 : Nat) : Int))
    (done : ∀ h tk, Fr h₀ env.locals h m₀ → News h₀ env.locals h news → Q .next { s with heap := h, toks := tk }) :
    wpAny (model prog w) A (pyIter (.ref r)) (fun it s₂ => LoopAtV prog w A h₀ env x body Q E it s₂) E s := by
  refine wpAny_pyIter_range hr hsmall ?_
  have W : Walks prog w A s.heap.objs.size [s.heap.objs.size] [s.heap.objs.size] 0 (fun i v => i < 0 ∧ ∃ t, v = .int (a₀ + i * 1) t)
      (fun i h => IsRangeIter h s.heap.objs.size (a₀ + (i : Nat) * 1) (((0 : Nat) : Int) - (i : Nat)) 1) := (Walks.range hh _ a₀ 1 0).bound
  refine loop_invN (fun _ m nx => m = m₀ ∧ nx = news) W ?_ ?_ ?_ ?_ (by show IsRangeIter _ _ _ _ _; rw [hn]; simpa using Heap.get?_push_size _ rfl) (F.push _) (fun p hp => ⟨Heap.get?_push_of_some _ (N p hp).1, (N p hp).2⟩) ⟨rfl, rfl⟩ ?_ ?_
  · intro hm
    exact absurd F.ns.lt ((List.mem_singleton.mp hm) ▸ Nat.lt_irrefl _)
  · intro b hb
    rw [List.mem_singleton.mp hb]
    exact next_is_new F
  · intro p hp hI
    exact absurd (Heap.lt_size (N p hp).1) ((List.mem_singleton.mp hI) ▸ Nat.lt_irrefl _)
  · intro p hp hI
    exact absurd (Heap.lt_size (N p hp).1) ((List.mem_singleton.mp hI) ▸ Nat.lt_irrefl _)
  · intro i v m₁ n₁ h tk own hi
    exact absurd hi (Nat.not_lt_zero _)
  · rintro m₁ n₁ h tk ⟨rfl, rfl⟩ F₁ N₁
    exact done h tk F₁ N₁
theorem range_small {a b : Int} (h1 : 0 ≤ a) (h2 : a < 100) (h3 : 0 ≤ b) (h4 : b < 100) : Builtin.Range.small a b 1 = true := small_one (by omega) (by omega) (by omega) (by omega)
theorem range_size0 {a b : Int} (h : b ≤ a) : Builtin.Range.rangeSize a b 1 = ((0 : Nat) : Int) := by
  rw [rangeSize_nat]; omega

def held_W1_1 : List String := "pyIter ref".splitOn ";"
local macro_rules | `(tactic| walk_at $s:str) => if held_W1_1.contains s.getString then `(tactic| (k_here; refine hold ?_)) else Lean.Macro.throwUnsupported
namespace K_indent_spec
set_option maxRecDepth 100000 in
set_option maxHeartbeats 4000000 in
noncomputable def cut : (@Subtype Prop fun P => P → ∀ {w : World} {p : Program} {loose : List Str} {mean : ExcName → Option Value} {mg mb : Str → Option Value} {A₀ : Around} {base h₀ : Heap} {L : Addr} {m : Str → Option Value} {cn : Str} {cs : Scope} {ca : Addr} {ccd : Value} {cl : List (Str × Addr)} {outer : List Env} {gd : Option (List Code)} {s : Shared} {R : Result → Shared → Prop} {news : List (Addr × Obj)} {x : Addr} {k b n nt : Nat} {ts : Int} {tts : Tok} (B : Below A₀ base outer h₀) (F : Fr h₀ L s.heap m) (X : (Mine.hd.heap_39 w.params).In h₀) (N : News h₀ L s.heap news) (T : Top p loose mean mg mb h₀) (hk : cs.kind = .function) (W : IsWs news x k b n nt) (hts : 2 ≤ ts) (hts5 : ts ≤ 8) (h : ∀ h' t' tk', Fr h₀ L h' m → News h₀ L h' news → R (.ok (.ret (.int ((b : Int) + ts * nt) t'))) { s with heap := h', toks := tk' }), codeAny (model Challenge.rw_pg0196_01.row.prog w) (At 200 gd (envX cn cs L ca ccd cl :: outer)) (.call (.ref 101) ⟨[.ref x, .int ts tts], []⟩) R s) := by
  refine' mkCut fun hole => ?_
  rotate_left
  focus
  intro w p loose mean mg mb A₀ base h₀ L m cn cs ca ccd cl outer gd s R news x k b n nt ts tts B F X N T hk W hts hts5 h
  obtain ⟨z, hlen, hk2, hb, hn, hnt, hz⟩ := W
  have N1 := news_app N hz
  clear N
  obtain ⟨dx, a1, a2, h1, h2, h3, h4, h5, t1, t2, t3, t4, t5, t6, t7, t8, t9, n1, n2, raw, cv⟩ := z
  dsimp only [wsLed, List.cons_append, List.nil_append] at N1 hlen
  revert X
  k_fill
  intro X
  revert B F T hk hts hts5 h hk2 hb hn hnt hlen hz N1 X
  revert cv
  revert w p loose mean mg mb A₀ base h₀ L m cn cs ca ccd cl outer gd s R news x k b n nt ts tts dx a1 a2 h1 h2 h3 h4 h5 t1 t2 t3 t4 t5 t6 t7 t8 t9 n1 n2 raw
  exact no_implicit_lambda% hole.get
noncomputable section
noncomputable def Pcut : (World) → (Program) → (List Str) → (ExcName → Option Value) → (Str → Option Value) → (Str → Option Value) → (Around) → (Heap) → (Heap) → (Addr) → (Str → Option Value) → (Str) → (Scope) → (Addr) → (Value) → (List (Str × Addr)) → (List Env) → (Option (List Code)) → (Shared) → (Result → Shared → Prop) → (List (Addr × Obj)) → (Addr) → (Nat) → (Nat) → (Nat) → (Nat) → (Int) → (Tok) → (Addr) → (Addr) → (Addr) → (Int) → (Int) → (Int) → (Int) → (Int) → (Tok) → (Tok) → (Tok) → (Tok) → (Tok) → (Tok) → (Tok) → (Tok) → (Tok) → (Nat) → (Nat) → (Str) → Prop := (@id (∀ {Rcut : (World) → (Program) → (List Str) → (ExcName → Option Value) → (Str → Option Value) → (Str → Option Value) → (Around) → (Heap) → (Heap) → (Addr) → (Str → Option Value) → (Str) → (Scope) → (Addr) → (Value) → (List (Str × Addr)) → (List Env) → (Option (List Code)) → (Shared) → (Result → Shared → Prop) → (List (Addr × Obj)) → (Addr) → (Nat) → (Nat) → (Nat) → (Nat) → (Int) → (Tok) → (Addr) → (Addr) → (Addr) → (Int) → (Int) → (Int) → (Int) → (Int) → (Tok) → (Tok) → (Tok) → (Tok) → (Tok) → (Tok) → (Tok) → (Tok) → (Tok) → (Nat) → (Nat) → (Str) → Prop}, cut.1 = (∀ w p loose mean mg mb A₀ base h₀ L m cn cs ca ccd cl outer gd s R news x k b n nt ts tts dx a1 a2 h1 h2 h3 h4 h5 t1 t2 t3 t4 t5 t6 t7 t8 t9 n1 n2 raw, Rcut w p loose mean mg mb A₀ base h₀ L m cn cs ca ccd cl outer gd s R news x k b n nt ts tts dx a1 a2 h1 h2 h3 h4 h5 t1 t2 t3 t4 t5 t6 t7 t8 t9 n1 n2 raw) → _) fun {Rcut} _ => Rcut) rfl
noncomputable def Tcut : Type := (World × Program × (List Str) × (ExcName → Option Value) × (Str → Option Value) × (Str → Option Value) × Around) × (Heap × Heap × Addr × (Str → Option Value) × Str × Scope × Addr) × (Value × (List (Str × Addr)) × (List Env) × (Option (List Code)) × Shared × (Result → Shared → Prop) × (List (Addr × Obj))) × (Addr × Nat × Nat × Nat × Nat × Int × Tok) × (Addr × Addr × Addr × Int × Int × Int × Int) × (Int × Tok × Tok × Tok × Tok × Tok × Tok) × (Tok × Tok × Tok × Nat × Nat × Str)
noncomputable def Qcut (x : Tcut) : Prop := Pcut x.1.1 x.1.2.1 x.1.2.2.1 x.1.2.2.2.1 x.1.2.2.2.2.1 x.1.2.2.2.2.2.1 x.1.2.2.2.2.2.2 x.2.1.1 x.2.1.2.1 x.2.1.2.2.1 x.2.1.2.2.2.1 x.2.1.2.2.2.2.1 x.2.1.2.2.2.2.2.1 x.2.1.2.2.2.2.2.2 x.2.2.1.1 x.2.2.1.2.1 x.2.2.1.2.2.1 x.2.2.1.2.2.2.1 x.2.2.1.2.2.2.2.1 x.2.2.1.2.2.2.2.2.1 x.2.2.1.2.2.2.2.2.2 x.2.2.2.1.1 x.2.2.2.1.2.1 x.2.2.2.1.2.2.1 x.2.2.2.1.2.2.2.1 x.2.2.2.1.2.2.2.2.1 x.2.2.2.1.2.2.2.2.2.1 x.2.2.2.1.2.2.2.2.2.2 x.2.2.2.2.1.1 x.2.2.2.2.1.2.1 x.2.2.2.2.1.2.2.1 x.2.2.2.2.1.2.2.2.1 x.2.2.2.2.1.2.2.2.2.1 x.2.2.2.2.1.2.2.2.2.2.1 x.2.2.2.2.1.2.2.2.2.2.2 x.2.2.2.2.2.1.1 x.2.2.2.2.2.1.2.1 x.2.2.2.2.2.1.2.2.1 x.2.2.2.2.2.1.2.2.2.1 x.2.2.2.2.2.1.2.2.2.2.1 x.2.2.2.2.2.1.2.2.2.2.2.1 x.2.2.2.2.2.1.2.2.2.2.2.2 x.2.2.2.2.2.2.1 x.2.2.2.2.2.2.2.1 x.2.2.2.2.2.2.2.2.1 x.2.2.2.2.2.2.2.2.2.1 x.2.2.2.2.2.2.2.2.2.2.1 x.2.2.2.2.2.2.2.2.2.2.2
theorem ex_cut : ∃ x : Tcut, Qcut x → ∀ y, Qcut y := by
  haveI := neW; haveI := neA; haveI := neS
  haveI : Nonempty Tcut := by unfold Tcut; set_option synthInstance.maxSize 2000 in infer_instance
  exact henk1 Qcut
noncomputable def Ccut : Tcut := Classical.choose ex_cut
@[irreducible] noncomputable def w : World := Ccut.1.1
@[irreducible] noncomputable def p : Program := Ccut.1.2.1
@[irreducible] noncomputable def loose : List Str := Ccut.1.2.2.1
@[irreducible] noncomputable def mean : ExcName → Option Value := Ccut.1.2.2.2.1
@[irreducible] noncomputable def mg : Str → Option Value := Ccut.1.2.2.2.2.1
@[irreducible] noncomputable def mb : Str → Option Value := Ccut.1.2.2.2.2.2.1
@[irreducible] noncomputable def A₀ : Around := Ccut.1.2.2.2.2.2.2
@[irreducible] noncomputable def base : Heap := Ccut.2.1.1
@[irreducible] noncomputable def h₀ : Heap := Ccut.2.1.2.1
@[irreducible] noncomputable def L : Addr := Ccut.2.1.2.2.1
@[irreducible] noncomputable def m : Str → Option Value := Ccut.2.1.2.2.2.1
@[irreducible] noncomputable def cn : Str := Ccut.2.1.2.2.2.2.1
@[irreducible] noncomputable def cs : Scope := Ccut.2.1.2.2.2.2.2.1
@[irreducible] noncomputable def ca : Addr := Ccut.2.1.2.2.2.2.2.2
@[irreducible] noncomputable def ccd : Value := Ccut.2.2.1.1
@[irreducible] noncomputable def cl : List (Str × Addr) := Ccut.2.2.1.2.1
@[irreducible] noncomputable def outer : List Env := Ccut.2.2.1.2.2.1
@[irreducible] noncomputable def gd : Option (List Code) := Ccut.2.2.1.2.2.2.1
@[irreducible] noncomputable def s : Shared := Ccut.2.2.1.2.2.2.2.1
@[irreducible] noncomputable def R : Result → Shared → Prop := Ccut.2.2.1.2.2.2.2.2.1
@[irreducible] noncomputable def news : List (Addr × Obj) := Ccut.2.2.1.2.2.2.2.2.2
@[irreducible] noncomputable def x : Addr := Ccut.2.2.2.1.1
@[irreducible] noncomputable def k : Nat := Ccut.2.2.2.1.2.1
@[irreducible] noncomputable def b : Nat := Ccut.2.2.2.1.2.2.1
@[irreducible] noncomputable def n : Nat := Ccut.2.2.2.1.2.2.2.1
@[irreducible] noncomputable def nt : Nat := Ccut.2.2.2.1.2.2.2.2.1
@[irreducible] noncomputable def ts : Int := Ccut.2.2.2.1.2.2.2.2.2.1
@[irreducible] noncomputable def tts : Tok := Ccut.2.2.2.1.2.2.2.2.2.2
@[irreducible] noncomputable def dx : Addr := Ccut.2.2.2.2.1.1
@[irreducible] noncomputable def a1 : Addr := Ccut.2.2.2.2.1.2.1
@[irreducible] noncomputable def a2 : Addr := Ccut.2.2.2.2.1.2.2.1
@[irreducible] noncomputable def h1 : Int := Ccut.2.2.2.2.1.2.2.2.1
@[irreducible] noncomputable def h2 : Int := Ccut.2.2.2.2.1.2.2.2.2.1
@[irreducible] noncomputable def h3 : Int := Ccut.2.2.2.2.1.2.2.2.2.2.1
@[irreducible] noncomputable def h4 : Int := Ccut.2.2.2.2.1.2.2.2.2.2.2
@[irreducible] noncomputable def h5 : Int := Ccut.2.2.2.2.2.1.1
@[irreducible] noncomputable def t1 : Tok := Ccut.2.2.2.2.2.1.2.1
@[irreducible] noncomputable def t2 : Tok := Ccut.2.2.2.2.2.1.2.2.1
@[irreducible] noncomputable def t3 : Tok := Ccut.2.2.2.2.2.1.2.2.2.1
@[irreducible] noncomputable def t4 : Tok := Ccut.2.2.2.2.2.1.2.2.2.2.1
@[irreducible] noncomputable def t5 : Tok := Ccut.2.2.2.2.2.1.2.2.2.2.2.1
@[irreducible] noncomputable def t6 : Tok := Ccut.2.2.2.2.2.1.2.2.2.2.2.2
@[irreducible] noncomputable def t7 : Tok := Ccut.2.2.2.2.2.2.1
@[irreducible] noncomputable def t8 : Tok := Ccut.2.2.2.2.2.2.2.1
@[irreducible] noncomputable def t9 : Tok := Ccut.2.2.2.2.2.2.2.2.1
@[irreducible] noncomputable def n1 : Nat := Ccut.2.2.2.2.2.2.2.2.2.1
@[irreducible] noncomputable def n2 : Nat := Ccut.2.2.2.2.2.2.2.2.2.2.1
@[irreducible] noncomputable def raw : Str := Ccut.2.2.2.2.2.2.2.2.2.2.2
end
set_option maxRecDepth 100000 in
set_option maxHeartbeats 4000000 in
theorem at_cut : Pcut w p loose mean mg mb A₀ base h₀ L m cn cs ca ccd cl outer gd s R news x k b n nt ts tts dx a1 a2 h1 h2 h3 h4 h5 t1 t2 t3 t4 t5 t6 t7 t8 t9 n1 n2 raw := by
  intro cv B F T hk hts hts5 h hk2 hb hn hnt hlen hz N1 X
  obtain rfl | ⟨v1, rfl⟩ | ⟨v1, v2, rfl⟩ : cv = [] ∨ (∃ v1, cv = [v1]) ∨ (∃ v1 v2, cv = [v1, v2]) := len_le2 (hlen ▸ hk2)
  all_goals (k_dflt ktr_enter; k_steps; repeat' (first | (refine unhold ?_; (first | ((with_reducible show wpAny _ _ (pyIter (Value.ref _)) (fun it s₂ => LoopAtV _ _ _ _ _ _ _ _ _ it s₂) _ _); k_here; (rename IsRange _ _ _ _ _ _ _ _ => R'); (rename Fr _ _ _ _ => lF'); (rename News _ _ _ _ => lN'); (with_unfolding_all refine' iter_rangeNil (by rfl) R' lF' lN' ?kazq ?kbzq ?_); (case kbzq => (first | exact range_size0 (by omega) | (exact range_size0 (by simp; omega)))); (case kazq => (first | exact range_small (by omega) (by omega) (by omega) (by omega) | exact range_small (by omega) (by omega) (by simp) (by simp))); clear lF' lN'; intro h' tk' F' N'; (try (revert h' tk' F' N'; intros)))); (try k_steps))))
  all_goals (simp only [Int.zero_add]; (rename Fr _ _ _ _ => fF); (rename News _ _ _ _ => fN); refine h _ _ _ fF (fun p hp => fN p ?_); repeat (first | exact hp | refine List.mem_cons_of_mem _ ?_))
theorem all_cut : ∀ w p loose mean mg mb A₀ base h₀ L m cn cs ca ccd cl outer gd s R news x k b n nt ts tts dx a1 a2 h1 h2 h3 h4 h5 t1 t2 t3 t4 t5 t6 t7 t8 t9 n1 n2 raw, Pcut w p loose mean mg mb A₀ base h₀ L m cn cs ca ccd cl outer gd s R news x k b n nt ts tts dx a1 a2 h1 h2 h3 h4 h5 t1 t2 t3 t4 t5 t6 t7 t8 t9 n1 n2 raw := by
  have h : Pcut w p loose mean mg mb A₀ base h₀ L m cn cs ca ccd cl outer gd s R news x k b n nt ts tts dx a1 a2 h1 h2 h3 h4 h5 t1 t2 t3 t4 t5 t6 t7 t8 t9 n1 n2 raw := at_cut
  delta w p loose mean mg mb A₀ base h₀ L m cn cs ca ccd cl outer gd s R news x k b n nt ts tts dx a1 a2 h1 h2 h3 h4 h5 t1 t2 t3 t4 t5 t6 t7 t8 t9 n1 n2 raw at h
  exact fun w p loose mean mg mb A₀ base h₀ L m cn cs ca ccd cl outer gd s R news x k b n nt ts tts dx a1 a2 h1 h2 h3 h4 h5 t1 t2 t3 t4 t5 t6 t7 t8 t9 n1 n2 raw => Classical.choose_spec ex_cut h ((w, p, loose, mean, mg, mb, A₀), (base, h₀, L, m, cn, cs, ca), (ccd, cl, outer, gd, s, R, news), (x, k, b, n, nt, ts, tts), (dx, a1, a2, h1, h2, h3, h4), (h5, t1, t2, t3, t4, t5, t6), (t7, t8, t9, n1, n2, raw))
end K_indent_spec
theorem indent_spec : type_of% (@Subtype.property _ _ K_indent_spec.cut (no_implicit_lambda% K_indent_spec.all_cut)) := no_implicit_lambda% (@Subtype.property _ _ K_indent_spec.cut (no_implicit_lambda% K_indent_spec.all_cut))
end Mine
end
section
theorem Mine.off_W2 : True := by (w_top off; trivial)
open PySem PySem.W PyProof.Rows
namespace Mine
theorem wp_at {α : Type} {M : Model} {A : Around} {t : Sem α} {Q : α → Shared → Prop} {E : Value → Shared → Prop} {s : Shared} {d : Nat} {gd : Option (List Code)} {fr : List Env}
    (h : wpAny M (At d gd fr) t Q E s) (hh : A.handled = none) (hf : A.frames = some fr) (hg : A.guards = gd) (hd : A.depth ≤ d + 300) (hu : A.units ≤ 4 * d) : wpAny M A t Q E s := fun Γ p hΓ =>
  h Γ p ⟨hΓ.1.trans hh, Nat.le_trans hΓ.2.1 hd, fun l hl => hΓ.2.2.1 l (hf.trans hl), fun g hl => hΓ.2.2.2.1 g (hg.trans hl), Nat.le_trans hΓ.2.2.2.2 hu⟩

theorem code_at {M : Model} {A : Around} {c : Code} {R : Result → Shared → Prop} {s : Shared} {d : Nat} {gd : Option (List Code)} {fr : List Env}
    (h : codeAny M (At d gd fr) c R s) (hh : A.handled = none) (hf : A.frames = some fr) (hg : A.guards = gd) (hd : A.depth ≤ d + 300) (hu : A.units ≤ 4 * d) : codeAny M A c R s := fun Γ p hc hΓ =>
  h Γ p hc ⟨hΓ.1.trans hh, Nat.le_trans hΓ.2.1 hd, fun l hl => hΓ.2.2.1 l (hf.trans hl), fun g hl => hΓ.2.2.2.1 g (hg.trans hl), Nat.le_trans hΓ.2.2.2.2 hu⟩

noncomputable def lessB (k1 b1 n1 nt1 k2 b2 n2 nt2 : Nat) : Bool :=
  if n2 ≤ n1 then false else if k1 ≤ 1 ∧ k2 ≤ 1 then decide (nt1 ≤ nt2)
  else (List.range (max (max (k1 - 1) b1) (max (k2 - 1) b2))).all fun i => decide (b1 + (i + 2) * nt1 < b2 + (i + 2) * nt2)


section
variable {prog : Program} {w : World} {A : Around} {E : Value → Shared → Prop} {s : Shared} {env : Env} {h₀ : Heap} {x : Str} {body : List Stmt} {Q : Flow → Shared → Prop}
theorem len_tupK {news : List (Addr × Obj)} {L l : Addr} {us : List Value} {k c : Nat} {Q : Value → Shared → Prop} (N : News h₀ L s.heap news) (hm : (l, tupObj us c) ∈ news) (e : us.length = k) (hfit : k < 100)
    (h : Q (.int (k : Int) (s.toks + 1)) { s with toks := s.toks + 1 + 1 }) : wpAny (model prog w) A (call (.builtin "len") [.ref l]) Q E s := by
  have hl : IsTup s.heap l us.toArray := ⟨_, (N _ hm).1, rfl, c, rfl⟩
  have e2 : us.toArray.size = k := by rw [List.size_toArray, e]
  exact len_tuple hl (by rw [e2]; omega) (by rw [e2]; exact h)

noncomputable def SearchEnd (h₀ : Heap) (L : Addr) (x : Str) (m₀ : Str → Option Value) (need : List (Addr × Obj)) (c : Prop) (s₁ s₂ : Shared) : Prop :=
  ∃ h' tk m', s₂ = { s₁ with heap := h', toks := tk } ∧ Fr h₀ L h' m' ∧ (∀ y, y ≠ x → m' y = m₀ y) ∧ News h₀ L h' need ∧ c
noncomputable def SearchPost (h₀ : Heap) (L : Addr) (x : Str) (m₀ : Str → Option Value) (need : List (Addr × Obj)) (c : Prop) (s₁ : Shared) (Q : Flow → Shared → Prop) (f : Flow) (s₂ : Shared) : Prop :=
  match f with
  | .ret v => Q (.ret v) s₂
  | .brk => Q .next s₂
  | _ => SearchEnd h₀ L x m₀ need c s₁ s₂
inductive Plan (n : Nat) (p : Nat → Prop) : Prop | mk : Plan n p
theorem iter_rangeAll {r : Addr} {a₀ b₀ : Int} {t₀ u₀ v₀ : Tok} {m₀ : Str → Option Value} {news : List (Addr × Obj)} {n : Nat} {p : Nat → Prop} (_pl : Plan n p)
    (hh : A.handled = none) (hr : IsRange s.heap r a₀ b₀ 1 t₀ u₀ v₀) (F : Fr h₀ env.locals s.heap m₀) (N : News h₀ env.locals s.heap news) (hsmall : Builtin.Range.small a₀ b₀ 1 = true) (hn : Builtin.Range.rangeSize a₀ b₀ 1 = (n : Int))
    (turn : ∀ (i : Nat) t h tk own, i < n → (∀ j, j < i → p j) → Fr h₀ env.locals h (fun y => if y = x then some (.int (a₀ + (i : Int)) t) else m₀ y) → News h₀ env.locals h (news ++ own) →
      wpAny (model prog w) A (execs body env) (SearchPost h₀ env.locals x m₀ (news ++ own) (p i) { s with heap := h, toks := tk } Q) E { s with heap := h, toks := tk })
    (done : ∀ (u : Str → Option Value) h tk, (∀ j, j < n → p j) → Fr h₀ env.locals h (fun y => if y = x then u y else m₀ y) → News h₀ env.locals h news → Q .next { s with heap := h, toks := tk }) :
    wpAny (model prog w) A (pyIter (.ref r)) (fun it s₂ => LoopAtV prog w A h₀ env x body Q E it s₂) E s := by
  refine wpAny_pyIter_range hr hsmall ?_
  have W : Walks prog w A s.heap.objs.size [s.heap.objs.size] [s.heap.objs.size] n (fun i v => i < n ∧ ∃ t, v = .int (a₀ + i * 1) t)
      (fun i h => IsRangeIter h s.heap.objs.size (a₀ + (i : Nat) * 1) ((n : Int) - (i : Nat)) 1) := (Walks.range hh _ a₀ 1 n).bound
  refine loop_invN (fun i m nx => (∀ y, y ≠ x → m y = m₀ y) ∧ nx = news ∧ ∀ j, j < i → p j) W ?_ ?_ ?_ ?_ (by show IsRangeIter _ _ _ _ _; rw [hn]; simpa using Heap.get?_push_size _ rfl) (F.push _) (fun p hp => ⟨Heap.get?_push_of_some _ (N p hp).1, (N p hp).2⟩) ⟨fun _ _ => rfl, rfl, fun j hj => absurd hj (Nat.not_lt_zero j)⟩ ?_ ?_
  · intro hm
    exact absurd F.ns.lt ((List.mem_singleton.mp hm) ▸ Nat.lt_irrefl _)
  · intro b hb
    rw [List.mem_singleton.mp hb]
    exact next_is_new F
  · intro p hp hI
    exact absurd (Heap.lt_size (N p hp).1) ((List.mem_singleton.mp hI) ▸ Nat.lt_irrefl _)
  · intro p hp hI
    exact absurd (Heap.lt_size (N p hp).1) ((List.mem_singleton.mp hI) ▸ Nat.lt_irrefl _)
  · rintro i v m₁ nx h tk own hi ⟨_, t, rfl⟩ _ hoff ⟨hm, rfl, hp⟩ F₁ N₁
    have e1 : a₀ + (i : Int) * 1 = a₀ + (i : Int) := by omega
    rw [e1] at F₁
    have em : (fun y => if y = x then some (Value.int (a₀ + (i : Int)) t) else m₁ y) = fun y => if y = x then some (Value.int (a₀ + (i : Int)) t) else m₀ y := by
      funext y
      by_cases h1 : y = x
      · simp [h1]
      · simp only [if_neg h1]; exact hm y h1
    rw [em] at F₁
    refine wpAny_mono (turn i t h tk own hi hp F₁ N₁) (fun f s₂ q => ?_) fun _ _ z => z
    have up : SearchEnd h₀ env.locals x m₀ (nx ++ own) (p i) { s with heap := h, toks := tk } s₂ → InvEndN h₀ env.locals (fun m' nx' => (∀ y, y ≠ x → m' y = m₀ y) ∧ nx' = nx ∧ ∀ j, j < i + 1 → p j) own (nx.map (·.1)) { s with heap := h, toks := tk } s₂ := by
      rintro ⟨h', tk', m', e, F', hm', N', hc⟩
      refine ⟨h', tk', m', nx ++ own, nx, e, F', N', fun q hq => List.mem_append_left _ hq, fun q hq => List.mem_append_right _ hq, rfl, hm', rfl, fun j hj => ?_⟩
      rcases Nat.lt_succ_iff_lt_or_eq.mp hj with h1 | h1
      · exact hp j h1
      · exact h1 ▸ hc
    cases f with
    | ret v => exact q
    | brk => exact q
    | next => exact up q
    | cont => exact up q
  · rintro m₁ nx h tk ⟨hm, rfl, hp⟩ F₁ N₁
    refine done m₁ h tk hp ?_ N₁
    have e : (fun y => if y = x then m₁ y else m₀ y) = m₁ := by
      funext y
      by_cases h1 : y = x
      · simp [h1]
      · simp only [if_neg h1]; exact (hm y h1).symm
    rw [e]; exact F₁
theorem range_sizeN {a b : Int} {n : Nat} (h : b = a + (n : Int)) : Builtin.Range.rangeSize a b 1 = (n : Int) := by
  rw [rangeSize_nat, h, Int.add_comm a, Int.add_sub_cancel, Int.toNat_natCast]
end
theorem max_K {prog : Program} {w : World} {A : Around} {E : Value → Shared → Prop} {s : Shared} {h₀ : Heap} {L : Addr} {m : Str → Option Value} {news : List (Addr × Obj)} {a b : Int} {t u : Tok} {Q : Value → Shared → Prop} (hh : A.handled = none) (F : Fr h₀ L s.heap m) (N : News h₀ L s.heap news)
    (h : ∀ h' tk t', Fr h₀ L h' m → News h₀ L h' news → Q (.int (max a b) t') { s with heap := h', toks := tk }) :
    wpAny (model prog w) A (call (.builtin "max") [.int a t, .int b u]) Q E s := max_two_N hh F N fun h' tk F' N' => by
  have e : (if b > a then b else a) = max a b := by rw [Int.max_def]; split <;> split <;> omega
  rw [e]; exact h _ _ _ F' N'
def held_W2_1 : List String := "call type:range;call builtin:max;call builtin:len;pyIter ref".splitOn ";"
local macro_rules | `(tactic| walk_at $s:str) => if held_W2_1.contains s.getString then `(tactic| (k_here; refine hold ?_)) else Lean.Macro.throwUnsupported
theorem IsWs.mono {news news' : List (Addr × Obj)} {x : Addr} {k b n nt : Nat} (h : IsWs news x k b n nt) (hs : ∀ p ∈ news, p ∈ news') : IsWs news' x k b n nt :=
  let ⟨z, a1, a2, a3, a4, a5, a6⟩ := h; ⟨z, a1, a2, a3, a4, a5, fun p hp => hs p (a6 p hp)⟩
theorem ind_iff (b1 b2 i n1 n2 : Nat) : ((b2 : Int) + (2 + (i : Int)) * (n2 : Int) ≤ (b1 : Int) + (2 + (i : Int)) * (n1 : Int)) ↔ ¬ (b1 + (i + 2) * n1 < b2 + (i + 2) * n2) := by
  have e1 : (2 + (i : Int)) = ((i + 2 : Nat) : Int) := Int.add_comm 2 i
  rw [e1, ← Int.natCast_mul, ← Int.natCast_mul, ← Int.natCast_add, ← Int.natCast_add, Int.ofNat_le]
  exact Nat.not_lt.symm
theorem max_two (a b : Nat) : max (a : Int) (b : Int) = ((max a b : Nat) : Int) := by omega
theorem max_one (k b : Nat) : max ((k : Int) - 1) (b : Int) = ((max (k - 1) b : Nat) : Int) := by
  cases k with
  | zero => exact (Int.max_eq_right (Int.le_trans (by decide) (Int.natCast_nonneg b))).trans (congrArg _ (Nat.zero_max b).symm)
  | succ j => exact (congrArg (max · (b : Int)) (Int.add_sub_cancel (j : Int) 1)).trans (max_two j b)
theorem max5 {k1 b1 k2 b2 : Nat} (h1 : k1 ≤ 2) (h2 : b1 ≤ 5) (h3 : k2 ≤ 2) (h4 : b2 ≤ 5) : max (max (k1 - 1) b1) (max (k2 - 1) b2) ≤ 5 :=
  have g {k : Nat} (h : k ≤ 2) : k - 1 ≤ 5 := Nat.le_trans (Nat.sub_le _ _) (Nat.le_trans h (by decide))
  Nat.max_le.mpr ⟨Nat.max_le.mpr ⟨g h1, h2⟩, Nat.max_le.mpr ⟨g h3, h4⟩⟩
theorem ts_ge (n : Nat) : (2 : Int) ≤ 2 + (n : Int) := Int.le_add_of_nonneg_right (Int.natCast_nonneg n)
theorem ts_le {k1 b1 k2 b2 i : Nat} (hi : i < max (max (k1 - 1) b1) (max (k2 - 1) b2)) (h1 : k1 ≤ 2) (h2 : b1 ≤ 5) (h3 : k2 ≤ 2) (h4 : b2 ≤ 5) : 2 + (i : Int) ≤ 8 :=
  have h := Nat.lt_of_lt_of_le hi (max5 h1 h2 h3 h4)
  Int.ofNat_le.mpr (show 2 + i ≤ 8 from Nat.le_trans (Nat.add_le_add_left (Nat.le_of_lt h) 2) (by decide))
theorem max_fact (k1 b1 k2 b2 : Nat) : max (max ((k1 : Int) - 1) (b1 : Int)) (max ((k2 : Int) - 1) (b2 : Int)) + 1 + 1 = 2 + ((max (max (k1 - 1) b1) (max (k2 - 1) b2) : Nat) : Int) := by
  rw [max_one, max_one, max_two]
  generalize max (max (k1 - 1) b1) (max (k2 - 1) b2) = n
  omega
theorem max_low {k1 b1 k2 b2 : Nat} (h1 : k1 ≤ 2) (h2 : b1 ≤ 5) (h3 : k2 ≤ 2) (h4 : b2 ≤ 5) : max (max ((k1 : Int) - 1) (b1 : Int)) (max ((k2 : Int) - 1) (b2 : Int)) + 1 + 1 < 100 := by
  rw [max_one, max_one, max_two]
  have := max5 h1 h2 h3 h4
  generalize max (max (k1 - 1) b1) (max (k2 - 1) b2) = n at *
  omega
theorem max_high (k1 b1 k2 b2 : Nat) : 0 ≤ max (max ((k1 : Int) - 1) (b1 : Int)) (max ((k2 : Int) - 1) (b2 : Int)) + 1 + 1 := by
  rw [max_one, max_one, max_two]
  generalize max (max (k1 - 1) b1) (max (k2 - 1) b2) = n at *
  omega
theorem bool_fin {R : Result → Shared → Prop} {s' : Shared} {b b' : Bool} (h : R (.ok (.ret (.bool b))) s') (e : b = b') : R (.ok (.ret (.bool b'))) s' := e ▸ h
theorem less_simple {k1 b1 n1 nt1 k2 b2 n2 nt2 : Nat} (h1 : ¬ n2 ≤ n1) (h2 : k1 ≤ 1) (h3 : k2 ≤ 1) : lessB k1 b1 n1 nt1 k2 b2 n2 nt2 = decide ((nt1 : Int) ≤ (nt2 : Int)) := by
  unfold lessB
  rw [if_neg h1, if_pos ⟨h2, h3⟩]
  simp
theorem less_short {k1 b1 n1 nt1 k2 b2 n2 nt2 : Nat} (h1 : n2 ≤ n1) : lessB k1 b1 n1 nt1 k2 b2 n2 nt2 = false := by
  unfold lessB
  rw [if_pos h1]
theorem less_eq {k1 b1 n1 nt1 k2 b2 n2 nt2 : Nat} (h1 : ¬ n2 ≤ n1) (h2 : ¬ (k1 ≤ 1 ∧ k2 ≤ 1)) (h3 : ∀ j, j < max (max (k1 - 1) b1) (max (k2 - 1) b2) → b1 + (j + 2) * nt1 < b2 + (j + 2) * nt2) : lessB k1 b1 n1 nt1 k2 b2 n2 nt2 = true := by
  unfold lessB
  rw [if_neg h1, if_neg h2]
  exact List.all_eq_true.mpr fun i hi => decide_eq_true (h3 i (List.mem_range.mp hi))
theorem less_ne {k1 b1 n1 nt1 k2 b2 n2 nt2 i : Nat} (h1 : ¬ n2 ≤ n1) (h2 : ¬ (k1 ≤ 1 ∧ k2 ≤ 1)) (hi : i < max (max (k1 - 1) b1) (max (k2 - 1) b2)) (h3 : ¬ (b1 + (i + 2) * nt1 < b2 + (i + 2) * nt2)) : lessB k1 b1 n1 nt1 k2 b2 n2 nt2 = false := by
  unfold lessB
  rw [if_neg h1, if_neg h2]
  exact List.all_eq_false.mpr ⟨i, List.mem_range.mpr hi, by simpa using h3⟩
local macro_rules | `(tactic| walk_at "call ref") => `(tactic| (k_here; (try dsimp only [List.cons_append, List.nil_append, List.append_nil]); (with_reducible show wpAny _ _ (call (Value.ref 101) _) _ _ _); refine hold ?_))
namespace K_less_spec
set_option maxRecDepth 100000 in
set_option maxHeartbeats 1000000 in
noncomputable def cut : (@Subtype Prop fun P => P → ∀ {w : World} {p : Program} {loose : List Str} {mean : ExcName → Option Value} {mg mb : Str → Option Value} {A₀ : Around} {base h₀ : Heap} {L : Addr} {m : Str → Option Value} {cn : Str} {cs : Scope} {ca : Addr} {ccd : Value} {cl : List (Str × Addr)} {outer : List Env} {gd : Option (List Code)} {s : Shared} {R : Result → Shared → Prop} {news : List (Addr × Obj)} {x y : Addr} {k1 b1 n1 nt1 k2 b2 n2 nt2 : Nat} (B : Below A₀ base outer h₀) (F : Fr h₀ L s.heap m) (X : (Mine.hd.heap_39 w.params).In h₀) (N : News h₀ L s.heap news) (T : Top p loose mean mg mb h₀) (hk : cs.kind = .function) (W : IsWs news x k1 b1 n1 nt1) (V : IsWs news y k2 b2 n2 nt2) (h : ∀ h' tk', Fr h₀ L h' m → News h₀ L h' news → R (.ok (.ret (.bool (lessB k1 b1 n1 nt1 k2 b2 n2 nt2)))) { s with heap := h', toks := tk' }), codeAny (model Challenge.rw_pg0196_01.row.prog w) (At 150 gd (envX cn cs L ca ccd cl :: outer)) (.call (.ref 122) ⟨[.ref x, .ref y], []⟩) R s) := by
  refine' mkCut fun hole => ?_
  rotate_left
  focus
  intro w p loose mean mg mb A₀ base h₀ L m cn cs ca ccd cl outer gd s R news x y k1 b1 n1 nt1 k2 b2 n2 nt2 B F X N T hk W V h
  have W' := W
  have V' := V
  obtain ⟨z, hlen, hk2, hb, hn, hnt, hz⟩ := W
  obtain ⟨z', hlen', hk2', hb', hn', hnt', hz'⟩ := V
  have N1 := news_app (news_app N hz) (fun p hp => List.mem_append_right _ (hz' p hp))
  clear N
  obtain ⟨dx, a1, a2, h1, h2, h3, h4, h5, t1, t2, t3, t4, t5, t6, t7, t8, t9, m1, m2, raw, cv⟩ := z
  obtain ⟨dx', a1', a2', h1', h2', h3', h4', h5', t1', t2', t3', t4', t5', t6', t7', t8', t9', m1', m2', raw', cv'⟩ := z'
  dsimp only [wsLed, List.cons_append, List.nil_append] at N1 hlen hlen'
  revert X
  k_fill
  intro X
  have pl : Plan (max (max (k1 - 1) b1) (max (k2 - 1) b2)) (fun i => b1 + (i + 2) * nt1 < b2 + (i + 2) * nt2) := .mk
  k_dflt ktr_enter
  rename_i v_1 v_2 v_3 i_4 i_5 i_6 i_7 i_8 i_9
  revert B F T hk h W' V' hk2 hb hn hnt hk2' hb' hn' hnt' hlen hz hlen' hz' N1 X pl i_4 i_5 i_6 i_7 i_8 i_9
  revert qk ek
  dsimp (config := { beta := false, eta := false, etaStruct := .none, iota := false, proj := false }) only
  revert w p loose mean mg mb A₀ base h₀ L m cn cs ca ccd cl outer gd s R news x y k1 b1 n1 nt1 k2 b2 n2 nt2 dx a1 a2 h1 h2 h3 h4 h5 t1 t2 t3 t4 t5 t6 t7 t8 t9 m1 m2 raw cv dx' a1' a2' h1' h2' h3' h4' h5' t1' t2' t3' t4' t5' t6' t7' t8' t9' m1' m2' raw' cv' v_1 v_2 v_3
  exact no_implicit_lambda% hole.get
noncomputable section
noncomputable def Pcut : (World) → (Program) → (List Str) → (ExcName → Option Value) → (Str → Option Value) → (Str → Option Value) → (Around) → (Heap) → (Heap) → (Addr) → (Str → Option Value) → (Str) → (Scope) → (Addr) → (Value) → (List (Str × Addr)) → (List Env) → (Option (List Code)) → (Shared) → (Result → Shared → Prop) → (List (Addr × Obj)) → (Addr) → (Addr) → (Nat) → (Nat) → (Nat) → (Nat) → (Nat) → (Nat) → (Nat) → (Nat) → (Addr) → (Addr) → (Addr) → (Int) → (Int) → (Int) → (Int) → (Int) → (Tok) → (Tok) → (Tok) → (Tok) → (Tok) → (Tok) → (Tok) → (Tok) → (Tok) → (Nat) → (Nat) → (Str) → (List Value) → (Addr) → (Addr) → (Addr) → (Int) → (Int) → (Int) → (Int) → (Int) → (Tok) → (Tok) → (Tok) → (Tok) → (Tok) → (Tok) → (Tok) → (Tok) → (Tok) → (Nat) → (Nat) → (Str) → (List Value) → (Heap) → (Addr) → (Heap) → Prop := (@id (∀ {Rcut : (World) → (Program) → (List Str) → (ExcName → Option Value) → (Str → Option Value) → (Str → Option Value) → (Around) → (Heap) → (Heap) → (Addr) → (Str → Option Value) → (Str) → (Scope) → (Addr) → (Value) → (List (Str × Addr)) → (List Env) → (Option (List Code)) → (Shared) → (Result → Shared → Prop) → (List (Addr × Obj)) → (Addr) → (Addr) → (Nat) → (Nat) → (Nat) → (Nat) → (Nat) → (Nat) → (Nat) → (Nat) → (Addr) → (Addr) → (Addr) → (Int) → (Int) → (Int) → (Int) → (Int) → (Tok) → (Tok) → (Tok) → (Tok) → (Tok) → (Tok) → (Tok) → (Tok) → (Tok) → (Nat) → (Nat) → (Str) → (List Value) → (Addr) → (Addr) → (Addr) → (Int) → (Int) → (Int) → (Int) → (Int) → (Tok) → (Tok) → (Tok) → (Tok) → (Tok) → (Tok) → (Tok) → (Tok) → (Tok) → (Nat) → (Nat) → (Str) → (List Value) → (Heap) → (Addr) → (Heap) → Prop}, cut.1 = (∀ w p loose mean mg mb A₀ base h₀ L m cn cs ca ccd cl outer gd s R news x y k1 b1 n1 nt1 k2 b2 n2 nt2 dx a1 a2 h1 h2 h3 h4 h5 t1 t2 t3 t4 t5 t6 t7 t8 t9 m1 m2 raw cv dx' a1' a2' h1' h2' h3' h4' h5' t1' t2' t3' t4' t5' t6' t7' t8' t9' m1' m2' raw' cv' v_1 v_2 v_3, Rcut w p loose mean mg mb A₀ base h₀ L m cn cs ca ccd cl outer gd s R news x y k1 b1 n1 nt1 k2 b2 n2 nt2 dx a1 a2 h1 h2 h3 h4 h5 t1 t2 t3 t4 t5 t6 t7 t8 t9 m1 m2 raw cv dx' a1' a2' h1' h2' h3' h4' h5' t1' t2' t3' t4' t5' t6' t7' t8' t9' m1' m2' raw' cv' v_1 v_2 v_3) → _) fun {Rcut} _ => Rcut) rfl
noncomputable def Tcut : Type := (World × Program × (List Str) × (ExcName → Option Value) × (Str → Option Value) × (Str → Option Value) × Around × Heap × Heap) × (Addr × (Str → Option Value) × Str × Scope × Addr × Value × (List (Str × Addr)) × (List Env) × (Option (List Code))) × (Shared × (Result → Shared → Prop) × (List (Addr × Obj)) × Addr × Addr × Nat × Nat × Nat × Nat) × (Nat × Nat × Nat × Nat × Addr × Addr × Addr × Int × Int) × (Int × Int × Int × Tok × Tok × Tok × Tok × Tok × Tok) × (Tok × Tok × Tok × Nat × Nat × Str × (List Value) × Addr × Addr) × (Addr × Int × Int × Int × Int × Int × Tok × Tok × Tok) × (Tok × Tok × Tok × Tok × Tok × Tok × Nat × Nat × Str) × ((List Value) × Heap × Addr × Heap)
noncomputable def Qcut (x : Tcut) : Prop := Pcut x.1.1 x.1.2.1 x.1.2.2.1 x.1.2.2.2.1 x.1.2.2.2.2.1 x.1.2.2.2.2.2.1 x.1.2.2.2.2.2.2.1 x.1.2.2.2.2.2.2.2.1 x.1.2.2.2.2.2.2.2.2 x.2.1.1 x.2.1.2.1 x.2.1.2.2.1 x.2.1.2.2.2.1 x.2.1.2.2.2.2.1 x.2.1.2.2.2.2.2.1 x.2.1.2.2.2.2.2.2.1 x.2.1.2.2.2.2.2.2.2.1 x.2.1.2.2.2.2.2.2.2.2 x.2.2.1.1 x.2.2.1.2.1 x.2.2.1.2.2.1 x.2.2.1.2.2.2.1 x.2.2.1.2.2.2.2.1 x.2.2.1.2.2.2.2.2.1 x.2.2.1.2.2.2.2.2.2.1 x.2.2.1.2.2.2.2.2.2.2.1 x.2.2.1.2.2.2.2.2.2.2.2 x.2.2.2.1.1 x.2.2.2.1.2.1 x.2.2.2.1.2.2.1 x.2.2.2.1.2.2.2.1 x.2.2.2.1.2.2.2.2.1 x.2.2.2.1.2.2.2.2.2.1 x.2.2.2.1.2.2.2.2.2.2.1 x.2.2.2.1.2.2.2.2.2.2.2.1 x.2.2.2.1.2.2.2.2.2.2.2.2 x.2.2.2.2.1.1 x.2.2.2.2.1.2.1 x.2.2.2.2.1.2.2.1 x.2.2.2.2.1.2.2.2.1 x.2.2.2.2.1.2.2.2.2.1 x.2.2.2.2.1.2.2.2.2.2.1 x.2.2.2.2.1.2.2.2.2.2.2.1 x.2.2.2.2.1.2.2.2.2.2.2.2.1 x.2.2.2.2.1.2.2.2.2.2.2.2.2 x.2.2.2.2.2.1.1 x.2.2.2.2.2.1.2.1 x.2.2.2.2.2.1.2.2.1 x.2.2.2.2.2.1.2.2.2.1 x.2.2.2.2.2.1.2.2.2.2.1 x.2.2.2.2.2.1.2.2.2.2.2.1 x.2.2.2.2.2.1.2.2.2.2.2.2.1 x.2.2.2.2.2.1.2.2.2.2.2.2.2.1 x.2.2.2.2.2.1.2.2.2.2.2.2.2.2 x.2.2.2.2.2.2.1.1 x.2.2.2.2.2.2.1.2.1 x.2.2.2.2.2.2.1.2.2.1 x.2.2.2.2.2.2.1.2.2.2.1 x.2.2.2.2.2.2.1.2.2.2.2.1 x.2.2.2.2.2.2.1.2.2.2.2.2.1 x.2.2.2.2.2.2.1.2.2.2.2.2.2.1 x.2.2.2.2.2.2.1.2.2.2.2.2.2.2.1 x.2.2.2.2.2.2.1.2.2.2.2.2.2.2.2 x.2.2.2.2.2.2.2.1.1 x.2.2.2.2.2.2.2.1.2.1 x.2.2.2.2.2.2.2.1.2.2.1 x.2.2.2.2.2.2.2.1.2.2.2.1 x.2.2.2.2.2.2.2.1.2.2.2.2.1 x.2.2.2.2.2.2.2.1.2.2.2.2.2.1 x.2.2.2.2.2.2.2.1.2.2.2.2.2.2.1 x.2.2.2.2.2.2.2.1.2.2.2.2.2.2.2.1 x.2.2.2.2.2.2.2.1.2.2.2.2.2.2.2.2 x.2.2.2.2.2.2.2.2.1 x.2.2.2.2.2.2.2.2.2.1 x.2.2.2.2.2.2.2.2.2.2.1 x.2.2.2.2.2.2.2.2.2.2.2
theorem ex_cut : ∃ x : Tcut, Qcut x → ∀ y, Qcut y := by
  haveI := neW; haveI := neA; haveI := neS
  haveI : Nonempty Tcut := by unfold Tcut; set_option synthInstance.maxSize 2000 in infer_instance
  exact henk1 Qcut
noncomputable def Ccut : Tcut := Classical.choose ex_cut
@[irreducible] noncomputable def w : World := Ccut.1.1
@[irreducible] noncomputable def p : Program := Ccut.1.2.1
@[irreducible] noncomputable def loose : List Str := Ccut.1.2.2.1
@[irreducible] noncomputable def mean : ExcName → Option Value := Ccut.1.2.2.2.1
@[irreducible] noncomputable def mg : Str → Option Value := Ccut.1.2.2.2.2.1
@[irreducible] noncomputable def mb : Str → Option Value := Ccut.1.2.2.2.2.2.1
@[irreducible] noncomputable def A₀ : Around := Ccut.1.2.2.2.2.2.2.1
@[irreducible] noncomputable def base : Heap := Ccut.1.2.2.2.2.2.2.2.1
@[irreducible] noncomputable def h₀ : Heap := Ccut.1.2.2.2.2.2.2.2.2
@[irreducible] noncomputable def L : Addr := Ccut.2.1.1
@[irreducible] noncomputable def m : Str → Option Value := Ccut.2.1.2.1
@[irreducible] noncomputable def cn : Str := Ccut.2.1.2.2.1
@[irreducible] noncomputable def cs : Scope := Ccut.2.1.2.2.2.1
@[irreducible] noncomputable def ca : Addr := Ccut.2.1.2.2.2.2.1
@[irreducible] noncomputable def ccd : Value := Ccut.2.1.2.2.2.2.2.1
@[irreducible] noncomputable def cl : List (Str × Addr) := Ccut.2.1.2.2.2.2.2.2.1
@[irreducible] noncomputable def outer : List Env := Ccut.2.1.2.2.2.2.2.2.2.1
@[irreducible] noncomputable def gd : Option (List Code) := Ccut.2.1.2.2.2.2.2.2.2.2
@[irreducible] noncomputable def s : Shared := Ccut.2.2.1.1
@[irreducible] noncomputable def R : Result → Shared → Prop := Ccut.2.2.1.2.1
@[irreducible] noncomputable def news : List (Addr × Obj) := Ccut.2.2.1.2.2.1
@[irreducible] noncomputable def x : Addr := Ccut.2.2.1.2.2.2.1
@[irreducible] noncomputable def y : Addr := Ccut.2.2.1.2.2.2.2.1
@[irreducible] noncomputable def k1 : Nat := Ccut.2.2.1.2.2.2.2.2.1
@[irreducible] noncomputable def b1 : Nat := Ccut.2.2.1.2.2.2.2.2.2.1
@[irreducible] noncomputable def n1 : Nat := Ccut.2.2.1.2.2.2.2.2.2.2.1
@[irreducible] noncomputable def nt1 : Nat := Ccut.2.2.1.2.2.2.2.2.2.2.2
@[irreducible] noncomputable def k2 : Nat := Ccut.2.2.2.1.1
@[irreducible] noncomputable def b2 : Nat := Ccut.2.2.2.1.2.1
@[irreducible] noncomputable def n2 : Nat := Ccut.2.2.2.1.2.2.1
@[irreducible] noncomputable def nt2 : Nat := Ccut.2.2.2.1.2.2.2.1
@[irreducible] noncomputable def dx : Addr := Ccut.2.2.2.1.2.2.2.2.1
@[irreducible] noncomputable def a1 : Addr := Ccut.2.2.2.1.2.2.2.2.2.1
@[irreducible] noncomputable def a2 : Addr := Ccut.2.2.2.1.2.2.2.2.2.2.1
@[irreducible] noncomputable def h1 : Int := Ccut.2.2.2.1.2.2.2.2.2.2.2.1
@[irreducible] noncomputable def h2 : Int := Ccut.2.2.2.1.2.2.2.2.2.2.2.2
@[irreducible] noncomputable def h3 : Int := Ccut.2.2.2.2.1.1
@[irreducible] noncomputable def h4 : Int := Ccut.2.2.2.2.1.2.1
@[irreducible] noncomputable def h5 : Int := Ccut.2.2.2.2.1.2.2.1
@[irreducible] noncomputable def t1 : Tok := Ccut.2.2.2.2.1.2.2.2.1
@[irreducible] noncomputable def t2 : Tok := Ccut.2.2.2.2.1.2.2.2.2.1
@[irreducible] noncomputable def t3 : Tok := Ccut.2.2.2.2.1.2.2.2.2.2.1
@[irreducible] noncomputable def t4 : Tok := Ccut.2.2.2.2.1.2.2.2.2.2.2.1
@[irreducible] noncomputable def t5 : Tok := Ccut.2.2.2.2.1.2.2.2.2.2.2.2.1
@[irreducible] noncomputable def t6 : Tok := Ccut.2.2.2.2.1.2.2.2.2.2.2.2.2
@[irreducible] noncomputable def t7 : Tok := Ccut.2.2.2.2.2.1.1
@[irreducible] noncomputable def t8 : Tok := Ccut.2.2.2.2.2.1.2.1
@[irreducible] noncomputable def t9 : Tok := Ccut.2.2.2.2.2.1.2.2.1
@[irreducible] noncomputable def m1 : Nat := Ccut.2.2.2.2.2.1.2.2.2.1
@[irreducible] noncomputable def m2 : Nat := Ccut.2.2.2.2.2.1.2.2.2.2.1
@[irreducible] noncomputable def raw : Str := Ccut.2.2.2.2.2.1.2.2.2.2.2.1
@[irreducible] noncomputable def cv : List Value := Ccut.2.2.2.2.2.1.2.2.2.2.2.2.1
@[irreducible] noncomputable def dx' : Addr := Ccut.2.2.2.2.2.1.2.2.2.2.2.2.2.1
@[irreducible] noncomputable def a1' : Addr := Ccut.2.2.2.2.2.1.2.2.2.2.2.2.2.2
@[irreducible] noncomputable def a2' : Addr := Ccut.2.2.2.2.2.2.1.1
@[irreducible] noncomputable def h1' : Int := Ccut.2.2.2.2.2.2.1.2.1
@[irreducible] noncomputable def h2' : Int := Ccut.2.2.2.2.2.2.1.2.2.1
@[irreducible] noncomputable def h3' : Int := Ccut.2.2.2.2.2.2.1.2.2.2.1
@[irreducible] noncomputable def h4' : Int := Ccut.2.2.2.2.2.2.1.2.2.2.2.1
@[irreducible] noncomputable def h5' : Int := Ccut.2.2.2.2.2.2.1.2.2.2.2.2.1
@[irreducible] noncomputable def t1' : Tok := Ccut.2.2.2.2.2.2.1.2.2.2.2.2.2.1
@[irreducible] noncomputable def t2' : Tok := Ccut.2.2.2.2.2.2.1.2.2.2.2.2.2.2.1
@[irreducible] noncomputable def t3' : Tok := Ccut.2.2.2.2.2.2.1.2.2.2.2.2.2.2.2
@[irreducible] noncomputable def t4' : Tok := Ccut.2.2.2.2.2.2.2.1.1
@[irreducible] noncomputable def t5' : Tok := Ccut.2.2.2.2.2.2.2.1.2.1
@[irreducible] noncomputable def t6' : Tok := Ccut.2.2.2.2.2.2.2.1.2.2.1
@[irreducible] noncomputable def t7' : Tok := Ccut.2.2.2.2.2.2.2.1.2.2.2.1
@[irreducible] noncomputable def t8' : Tok := Ccut.2.2.2.2.2.2.2.1.2.2.2.2.1
@[irreducible] noncomputable def t9' : Tok := Ccut.2.2.2.2.2.2.2.1.2.2.2.2.2.1
@[irreducible] noncomputable def m1' : Nat := Ccut.2.2.2.2.2.2.2.1.2.2.2.2.2.2.1
@[irreducible] noncomputable def m2' : Nat := Ccut.2.2.2.2.2.2.2.1.2.2.2.2.2.2.2.1
@[irreducible] noncomputable def raw' : Str := Ccut.2.2.2.2.2.2.2.1.2.2.2.2.2.2.2.2
@[irreducible] noncomputable def cv' : List Value := Ccut.2.2.2.2.2.2.2.2.1
@[irreducible] noncomputable def v_1 : Heap := Ccut.2.2.2.2.2.2.2.2.2.1
@[irreducible] noncomputable def v_2 : Addr := Ccut.2.2.2.2.2.2.2.2.2.2.1
@[irreducible] noncomputable def v_3 : Heap := Ccut.2.2.2.2.2.2.2.2.2.2.2
end
set_option maxRecDepth 100000 in
set_option maxHeartbeats 1000000 in
theorem at_cut : Pcut w p loose mean mg mb A₀ base h₀ L m cn cs ca ccd cl outer gd s R news x y k1 b1 n1 nt1 k2 b2 n2 nt2 dx a1 a2 h1 h2 h3 h4 h5 t1 t2 t3 t4 t5 t6 t7 t8 t9 m1 m2 raw cv dx' a1' a2' h1' h2' h3' h4' h5' t1' t2' t3' t4' t5' t6' t7' t8' t9' m1' m2' raw' cv' v_1 v_2 v_3 := by
  intro B F T hk h W' V' hk2 hb hn hnt hk2' hb' hn' hnt' hlen hz hlen' hz' N1 X pl i_4 i_5 i_6 i_7 i_8 i_9
  k_steps; repeat' (first | (refine unhold ?_; (first | ((with_reducible show wpAny _ _ (call (Value.type _) _) _ _ _); (rename Fr _ _ _ _ => F'); (rename News _ _ _ _ => N'); first | (with_unfolding_all refine range1_rows F' N' ?_; intro _ _ _ _ _ _ _ _ _) | (with_unfolding_all refine range2_rows F' N' ?_; intro _ _ _ _ _ _ _ _ _)) | ((with_reducible show wpAny _ _ (call (Value.builtin _) [Value.int _ _, Value.int _ _]) _ _ _); k_here; k_dflt (refine' max_K (by rfl) ?k1zq ?k2zq ?_; (case k1zq => k_asm); (case k2zq => k_asm); k_whole); intro h' tk' t' F' N'; (try k_sweep); (try (revert h' tk' t' F' N'; intros))) | ((with_reducible show wpAny _ _ (call (Value.builtin "len") [Value.ref _]) _ _ _); k_dflt (refine' len_tupK ?k1zq ?k2zq ?k3zq ?k4zq ?_; (case k1zq => k_asm); (case k2zq => k_mem); (case k3zq => assumption); (case k4zq => omega); k_whole)) | ((with_reducible show wpAny _ _ (pyIter (Value.ref _)) (fun it s₂ => LoopAtV _ _ _ _ _ _ _ _ _ it s₂) _ _); k_here; (rename IsRange _ _ _ _ _ _ _ _ => R'); (rename Fr _ _ _ _ => lF'); (rename News _ _ _ _ => lN'); (rename Plan _ _ => pl'); k_dflt (refine' iter_rangeAll pl' (by rfl) R' lF' lN' ?kazq ?kbzq (fun i' t' h' tk' own' hi' hp' F' N' => ?_) (fun u' h' tk' hp' F' N' => ?_)); (case kbzq => exact range_sizeN (max_fact _ _ _ _)); (case kazq => exact range_small (by decide) (by decide) (max_high _ _ _ _) (max_low (by assumption) (by assumption) (by assumption) (by assumption))); (all_goals (try clear lF' lN')); (all_goals (try simp only [List.cons_append] at N')); (all_goals (try k_fold)); (try (revert i' t' h' tk' own' hi' hp' F' N' u' h' tk' hp' F' N'; intros)))); (try k_steps)) | (refine unhold ?_; (try dsimp only [List.cons_append, List.nil_append, List.append_nil]); refine wpAny_call ?_; k_dflt (refine' code_at (indent_spec ?Bzq ?Fzq ?Xzq ?Nzq ?Tzq ?hkzq ?Wzq ?h1zq ?h2zq ?_) ?a1zq ?a2zq ?a3zq ?a4zq ?a5zq; (case a1zq => exact rfl); (case a2zq => exact rfl); (case a3zq => exact rfl); (case a4zq => exact Nat.le_of_ble_eq_true rfl); (case a5zq => exact Nat.le_of_ble_eq_true rfl); (case Bzq => k_asm); (case Fzq => k_asm); (case Xzq => k_asm); (case Tzq => k_asm); (case Nzq => k_asm); (case hkzq => exact rfl); (case Wzq => refine IsWs.mono (by assumption) ?_; intro p hp; (repeat (first | exact hp | exact List.mem_append_left _ hp | refine List.mem_cons_of_mem _ ?_))); (case h1zq => first | exact ts_ge _ | omega); (case h2zq => first | exact ts_le (by assumption) (by assumption) (by assumption) (by assumption) (by assumption) | omega); k_whole); intro h' t' tk' F' N'; (try dsimp only); (try k_steps)) | (show SearchPost _ _ _ _ _ _ _ _ _ _; dsimp only [SearchPost]; (try k_steps)) | (show SearchEnd _ _ _ _ _ _ _ _; (rename Fr _ _ _ _ => fF); (rename News _ _ _ _ => fN); refine ⟨_, _, _, rfl, fF, ?_, ?_, ?_⟩; (intro y hy; first | rfl | simp [hy]); (intro p hp; refine fN p ?_; repeat (first | exact hp | refine List.mem_cons_of_mem _ ?_)); (first | assumption | exact Decidable.not_not.mp (fun q => absurd ((ind_iff _ _ _ _ _).mpr q) (by assumption)))))
  all_goals ((rename Fr _ _ _ _ => fF); (rename News _ _ _ _ => fN); refine bool_fin (h _ _ fF (fun p hp => fN p ?_)) ?_; (repeat (first | exact hp | exact List.mem_append_left _ hp | refine List.mem_cons_of_mem _ ?_)); (first | exact less_short (by omega) | exact less_simple (by omega) (by omega) (by omega) | exact less_eq (by omega) (by omega) (by assumption) | exact less_ne (by omega) (by omega) (by assumption) ((ind_iff _ _ _ _ _).mp (by assumption))))
theorem all_cut : ∀ w p loose mean mg mb A₀ base h₀ L m cn cs ca ccd cl outer gd s R news x y k1 b1 n1 nt1 k2 b2 n2 nt2 dx a1 a2 h1 h2 h3 h4 h5 t1 t2 t3 t4 t5 t6 t7 t8 t9 m1 m2 raw cv dx' a1' a2' h1' h2' h3' h4' h5' t1' t2' t3' t4' t5' t6' t7' t8' t9' m1' m2' raw' cv' v_1 v_2 v_3, Pcut w p loose mean mg mb A₀ base h₀ L m cn cs ca ccd cl outer gd s R news x y k1 b1 n1 nt1 k2 b2 n2 nt2 dx a1 a2 h1 h2 h3 h4 h5 t1 t2 t3 t4 t5 t6 t7 t8 t9 m1 m2 raw cv dx' a1' a2' h1' h2' h3' h4' h5' t1' t2' t3' t4' t5' t6' t7' t8' t9' m1' m2' raw' cv' v_1 v_2 v_3 := by
  have h : Pcut w p loose mean mg mb A₀ base h₀ L m cn cs ca ccd cl outer gd s R news x y k1 b1 n1 nt1 k2 b2 n2 nt2 dx a1 a2 h1 h2 h3 h4 h5 t1 t2 t3 t4 t5 t6 t7 t8 t9 m1 m2 raw cv dx' a1' a2' h1' h2' h3' h4' h5' t1' t2' t3' t4' t5' t6' t7' t8' t9' m1' m2' raw' cv' v_1 v_2 v_3 := at_cut
  delta w p loose mean mg mb A₀ base h₀ L m cn cs ca ccd cl outer gd s R news x y k1 b1 n1 nt1 k2 b2 n2 nt2 dx a1 a2 h1 h2 h3 h4 h5 t1 t2 t3 t4 t5 t6 t7 t8 t9 m1 m2 raw cv dx' a1' a2' h1' h2' h3' h4' h5' t1' t2' t3' t4' t5' t6' t7' t8' t9' m1' m2' raw' cv' v_1 v_2 v_3 at h
  exact fun w p loose mean mg mb A₀ base h₀ L m cn cs ca ccd cl outer gd s R news x y k1 b1 n1 nt1 k2 b2 n2 nt2 dx a1 a2 h1 h2 h3 h4 h5 t1 t2 t3 t4 t5 t6 t7 t8 t9 m1 m2 raw cv dx' a1' a2' h1' h2' h3' h4' h5' t1' t2' t3' t4' t5' t6' t7' t8' t9' m1' m2' raw' cv' v_1 v_2 v_3 => Classical.choose_spec ex_cut h ((w, p, loose, mean, mg, mb, A₀, base, h₀), (L, m, cn, cs, ca, ccd, cl, outer, gd), (s, R, news, x, y, k1, b1, n1, nt1), (k2, b2, n2, nt2, dx, a1, a2, h1, h2), (h3, h4, h5, t1, t2, t3, t4, t5, t6), (t7, t8, t9, m1, m2, raw, cv, dx', a1'), (a2', h1', h2', h3', h4', h5', t1', t2', t3'), (t4', t5', t6', t7', t8', t9', m1', m2', raw'), (cv', v_1, v_2, v_3))
end K_less_spec
theorem less_spec : type_of% (@Subtype.property _ _ K_less_spec.cut (no_implicit_lambda% K_less_spec.all_cut)) := no_implicit_lambda% (@Subtype.property _ _ K_less_spec.cut (no_implicit_lambda% K_less_spec.all_cut))
end Mine
end
section
open PySem PySem.W PyProof.Rows PySem.Spec
namespace Mine
section
variable {prog : Program} {w : World} {A : Around} {E : Value → Shared → Prop} {s : Shared} {env : Env} {h₀ : Heap} {x : Str} {body : List Stmt} {Q : Flow → Shared → Prop}
noncomputable def JEnd (h₀ : Heap) (L : Addr) (J : (Str → Option Value) → List (Addr × Obj) → Prop) (own : List (Addr × Obj)) (I : Addr) (s₁ s₂ : Shared) : Prop :=
  ∃ h' tk m' nx, s₂ = { s₁ with heap := h', toks := tk } ∧ Fr h₀ L h' m' ∧ News h₀ L h' (nx ++ own) ∧ (∀ p ∈ nx, p.1 ≠ I) ∧ J m' nx
noncomputable def JPost (h₀ : Heap) (L : Addr) (J : (Str → Option Value) → List (Addr × Obj) → Prop) (own : List (Addr × Obj)) (I : Addr) (s₁ : Shared) (Q : Flow → Shared → Prop) (f : Flow) (s₂ : Shared) : Prop :=
  match f with
  | .ret v => Q (.ret v) s₂
  | .brk => Q .next s₂
  | _ => JEnd h₀ L J own I s₁ s₂
theorem news_swap {L : Addr} {h : Heap} {a b : List (Addr × Obj)} (N : News h₀ L h (a ++ b)) : News h₀ L h (b ++ a) := fun p hp => N p (List.mem_append.mpr ((List.mem_append.mp hp).symm))
theorem loop_J {I : Addr} {fp : List Addr} {n : Nat} {P : Nat → Value → Prop} {St : Nat → Heap → Prop} {m₀ : Str → Option Value} {news : List (Addr × Obj)} (J : Nat → (Str → Option Value) → List (Addr × Obj) → Prop)
    (W : Walks prog w A I fp [I] n P St) (hIf : I ∈ fp) (hI0 : h₀.get? I = none) (hob : ∀ i h, St i h → ∃ o, h.get? I = some o) (hLf : env.locals ∉ fp) (hnw : ∀ p ∈ news, p.1 ≠ I) (hst : St 0 s.heap) (F : Fr h₀ env.locals s.heap m₀) (N : News h₀ env.locals s.heap news) (hj : J 0 m₀ news)
    (turn : ∀ i v m₁ news₁ h tk own oI, i < n → P i v → J i m₁ news₁ → (∀ p ∈ news₁, p.1 ≠ I) → (I, oI) ∈ own → (∀ p ∈ own, p.1 ∈ fp) → Fr h₀ env.locals h (fun y => if y = x then some v else m₁ y) → News h₀ env.locals h (news₁ ++ own) →
      wpAny (model prog w) A (execs body env) (JPost h₀ env.locals (J (i + 1)) own I { s with heap := h, toks := tk } Q) E { s with heap := h, toks := tk })
    (done : ∀ m₁ news₁ h tk, J n m₁ news₁ → Fr h₀ env.locals h m₁ → News h₀ env.locals h news₁ → Q .next { s with heap := h, toks := tk }) :
    LoopAtV prog w A h₀ env x body Q E (.ref I) s := by
  refine ⟨I, fp, [I], n, P, St, m₀, news, J, rfl, W, hLf, (fun b hb => List.mem_singleton.mp hb ▸ hI0), (fun p hp hm => hnw p hp (List.mem_singleton.mp hm)), hst, F, N, hj, ?_, ?_⟩
  · rintro i v m₁ news₁ s₁ own ⟨hh', tk', rfl⟩ hin hP hJ hoff hown _ hall hst' F₁ N₁
    obtain ⟨oI, hoI⟩ := hob _ _ hst'
    refine wpAny_mono (turn i v m₁ news₁ hh' tk' own oI hin hP hJ (fun p hp e => hoff p hp (List.mem_singleton.mpr e)) (hall I hIf hI0 oI hoI) hown F₁ (news_swap N₁)) (fun f s₂ p => ?_) fun _ _ e => e
    have fin : JEnd h₀ env.locals (J (i + 1)) own I { s with heap := hh', toks := tk' } s₂ → LoopStepU h₀ env.locals [I] own (J (i + 1)) { s with heap := hh', toks := tk' } .next s₂ := by
      rintro ⟨h', tk, m', nx, e, F', N', hn, hm⟩
      exact ⟨rfl, h', tk, m', nx, e, F', news_swap N', (fun p hp q => hn p hp (List.mem_singleton.mp q)), hm⟩
    cases f with
    | ret v => exact p
    | brk => exact p
    | next => exact fin p
    | cont => exact fin p
  · rintro h' tk m' news' F' N' _ hJ
    exact done m' news' h' tk hJ F' N'
theorem iter_strJ {xt : Str} {tx : Tok} {m₀ : Str → Option Value} {news : List (Addr × Obj)} (J : Nat → (Str → Option Value) → List (Addr × Obj) → Prop)
    (hh : A.handled = none) (F : Fr h₀ env.locals s.heap m₀) (N : News h₀ env.locals s.heap news) (hj : J 0 m₀ news)
    (turn : ∀ i c t m₁ news₁ h tk own I oI, xt.cps[i]? = some c → J i m₁ news₁ → (∀ p ∈ news₁, p.1 ≠ I) → (I, oI) ∈ own → (∀ p ∈ own, p.1 = I) → Fr h₀ env.locals h (fun y => if y = x then some (.str ⟨#[c]⟩ t) else m₁ y) → News h₀ env.locals h (news₁ ++ own) →
      wpAny (model prog w) A (execs body env) (JPost h₀ env.locals (J (i + 1)) own I { s with heap := h, toks := tk } Q) E { s with heap := h, toks := tk })
    (done : ∀ m₁ news₁ h tk, J xt.cps.size m₁ news₁ → Fr h₀ env.locals h m₁ → News h₀ env.locals h news₁ → Q .next { s with heap := h, toks := tk }) :
    wpAny (model prog w) A (pyIter (.str xt tx)) (fun it s₂ => LoopAtV prog w A h₀ env x body Q E it s₂) E s := by
  have key : ∀ (o : Obj) (St : Nat → Heap → Prop), Walks prog w A s.heap.objs.size [s.heap.objs.size] [s.heap.objs.size] xt.cps.size (SignAt xt) St → (∀ i h, St i h → ∃ o, h.get? s.heap.objs.size = some o) → St 0 (s.heap.push o) →
      LoopAtV prog w A h₀ env x body Q E (.ref s.heap.objs.size) { s with heap := s.heap.push o } := by
    intro o St W hob hst
    refine loop_J J W (List.mem_singleton.mpr rfl) (next_is_new F) hob ?_ ?_ hst (F.push _) (fun p hp => ⟨Heap.get?_push_of_some _ (N p hp).1, (N p hp).2⟩) hj ?_ ?_
    · intro hm
      exact absurd F.ns.lt ((List.mem_singleton.mp hm) ▸ Nat.lt_irrefl _)
    · intro p hp hI
      exact absurd (Heap.lt_size (N p hp).1) (hI ▸ Nat.lt_irrefl _)
    · rintro i v m₁ nx h tk own oI hi ⟨c, u, hc, rfl⟩ hJ hn ho hw F₁ N₁
      exact turn i c u m₁ nx h tk own _ oI hc hJ hn ho (fun p hp => List.mem_singleton.mp (hw p hp)) F₁ N₁
    · intro m₁ nx h tk hJ F₁ N₁
      exact done m₁ nx h tk hJ F₁ N₁
  cases ha : xt.cps.all (· < 128)
  · exact wpAny_pyIter_wide ha (key _ _ (Walks.strWide hh _ xt tx) (fun _ _ st => let ⟨o, ho, _⟩ := st; ⟨o, ho⟩) ⟨_, Heap.get?_push_size _ rfl, rfl, rfl⟩)
  · exact wpAny_pyIter_ascii ha (key _ _ (Walks.strAscii hh _ xt tx) (fun _ _ st => let ⟨o, ho, _⟩ := st; ⟨o, ho⟩) ⟨_, Heap.get?_push_size _ rfl, rfl, rfl⟩)
end
end Mine
end
section
theorem Mine.off_W4 : True := by (w_top off; trivial)
open PySem PySem.W PyProof.Rows PySem.Spec
namespace Mine
section
variable {prog : Program} {w : World} {A : Around} {E : Value → Shared → Prop} {s : Shared} {env : Env} {h₀ : Heap} {x : Str} {body : List Stmt} {Q : Flow → Shared → Prop}
noncomputable def SEnd {σ : Type} (h₀ : Heap) (L : Addr) (Led : σ → List (Addr × Obj)) (ps : σ → List (Str × Value)) (x : Str) (stored : List Str) (m₀ : Str → Option Value) (P : σ → Prop) (own : List (Addr × Obj)) (I : Addr) (s₁ s₂ : Shared) : Prop :=
  ∃ h' tk m' c, s₂ = { s₁ with heap := h', toks := tk } ∧ Fr h₀ L h' m' ∧ News h₀ L h' (Led c ++ own) ∧ (∀ p ∈ Led c, p.1 ≠ I) ∧ (∀ p ∈ ps c, m' p.1 = some p.2) ∧ (∀ z, z ≠ x → (∀ p ∈ ps c, z ≠ p.1) → stored.contains z = false → m' z = m₀ z) ∧ P c
noncomputable def SPost {σ : Type} (h₀ : Heap) (L : Addr) (Led : σ → List (Addr × Obj)) (ps : σ → List (Str × Value)) (x : Str) (stored : List Str) (m₀ : Str → Option Value) (P : σ → Prop) (own : List (Addr × Obj)) (I : Addr) (s₁ : Shared) (Q : Flow → Shared → Prop) (f : Flow) (s₂ : Shared) : Prop :=
  match f with
  | .ret v => Q (.ret v) s₂
  | .brk => Q .next s₂
  | _ => SEnd h₀ L Led ps x stored m₀ P own I s₁ s₂
theorem SEnd.intro {σ : Type} {L : Addr} {Led : σ → List (Addr × Obj)} {ps : σ → List (Str × Value)} {stored : List Str} {m₀ m' : Str → Option Value} {P : σ → Prop} {own news : List (Addr × Obj)} {I : Addr} {s₁ : Shared} {h' : Heap} {tk : Nat} (c : σ)
    (hp : ∀ p ∈ ps c, m' p.1 = some p.2) (F : Fr h₀ L h' m') (N : News h₀ L h' news) (hl : ∀ p ∈ Led c, p ∈ news) (ho : ∀ p ∈ own, p ∈ news) (hI : ∀ p ∈ Led c, p.1 ≠ I) (hz : ∀ z, z ≠ x → (∀ p ∈ ps c, z ≠ p.1) → stored.contains z = false → m' z = m₀ z) (hP : P c) :
    SEnd h₀ L Led ps x stored m₀ P own I s₁ { s₁ with heap := h', toks := tk } :=
  ⟨h', tk, m', c, rfl, F, (fun p hp => N p ((List.mem_append.mp hp).elim (hl p) (ho p))), hI, hp, hz, hP⟩
theorem iter_strS {σ : Type} {xt : Str} {tx : Tok} {m₀ : Str → Option Value} {news : List (Addr × Obj)} (Led : σ → List (Addr × Obj)) (ps : σ → List (Str × Value)) (stored : List Str) (P : Nat → σ → Prop) (c₀ : σ)
    (hh : A.handled = none) (F : Fr h₀ env.locals s.heap m₀) (N : News h₀ env.locals s.heap news) (hl : ∀ p ∈ Led c₀, p ∈ news) (hk : ∀ p ∈ ps c₀, m₀ p.1 = some p.2) (hp : P 0 c₀)
    (turn : ∀ i (c : σ) ch t (u : Str → Option Value) h tk own I oI, xt.cps[i]? = some ch → P i c → (∀ p ∈ Led c, p.1 ≠ I) → (I, oI) ∈ own → (∀ p ∈ own, p.1 = I) → Fr h₀ env.locals h (fun y => if y = x then some (.str ⟨#[ch]⟩ t) else kstB (fun z => if stored.contains z then u z else m₀ z) (ps c) y) → News h₀ env.locals h (Led c ++ own) →
      wpAny (model prog w) A (execs body env) (SPost h₀ env.locals Led ps x stored m₀ (P (i + 1)) own I { s with heap := h, toks := tk } Q) E { s with heap := h, toks := tk })
    (done : ∀ (c : σ) (u : Str → Option Value) h tk, P xt.cps.size c → Fr h₀ env.locals h (fun y => if y = x then u y else kstB (fun z => if stored.contains z then u z else m₀ z) (ps c) y) → News h₀ env.locals h (Led c) → Q .next { s with heap := h, toks := tk }) :
    wpAny (model prog w) A (pyIter (.str xt tx)) (fun it s₂ => LoopAtV prog w A h₀ env x body Q E it s₂) E s := by
  refine iter_strJ (fun i m nx => ∃ c, nx = Led c ∧ (∀ p ∈ ps c, m p.1 = some p.2) ∧ (∀ z, z ≠ x → (∀ p ∈ ps c, z ≠ p.1) → stored.contains z = false → m z = m₀ z) ∧ P i c) hh F (fun p hp => N p (hl p hp) : News h₀ env.locals s.heap (Led c₀)) ⟨c₀, rfl, hk, fun _ _ _ _ => rfl, hp⟩ ?_ ?_
  · rintro i ch t m₁ nx h tk own I oI hc ⟨c, rfl, h1, h2, hP⟩ hI hmem hw F₁ N₁
    refine wpAny_mono (turn i c ch t m₁ h tk own I oI hc hP hI hmem hw (kst_fr h1 h2 F₁) N₁) (fun f s₂ q => ?_) fun _ _ e => e
    have up : SEnd h₀ env.locals Led ps x stored m₀ (P (i + 1)) own I { s with heap := h, toks := tk } s₂ → JEnd h₀ env.locals (fun m nx => ∃ c, nx = Led c ∧ (∀ p ∈ ps c, m p.1 = some p.2) ∧ (∀ z, z ≠ x → (∀ p ∈ ps c, z ≠ p.1) → stored.contains z = false → m z = m₀ z) ∧ P (i + 1) c) own I { s with heap := h, toks := tk } s₂ := by
      rintro ⟨h', tk', m', c', e, F', N', hI', a1, a2, a3⟩
      exact ⟨h', tk', m', Led c', e, F', N', hI', c', rfl, a1, a2, a3⟩
    cases f with
    | ret v => exact q
    | brk => exact q
    | next => exact up q
    | cont => exact up q
  · rintro m₁ nx h tk ⟨c, rfl, h1, h2, hP⟩ F₁ N₁
    exact done c m₁ h tk hP (kst_frOut h1 h2 F₁) N₁
end

theorem sign_eq {c : Nat} (h : ((⟨#[c]⟩ : Str) == Str.ofString " ") = true) : c = 32 := by
  have := eq_of_beq h
  have e := congrArg Str.cps this
  have e2 : (Str.ofString " ").cps = #[32] := by decide +kernel
  rw [e2] at e
  simpa using e
theorem sign_eq' {c : Nat} (h : ((⟨#[c]⟩ : Str) == Str.ofString "\t") = true) : c = 9 := by
  have := eq_of_beq h
  have e := congrArg Str.cps this
  have e2 : (Str.ofString "\t").cps = #[9] := by decide +kernel
  rw [e2] at e
  simpa using e
theorem news4 {h₀ h : Heap} {L : Addr} {led news : List (Addr × Obj)} {a b c d : Addr × Obj} (N : News h₀ L h led) (m1 : a ∈ led) (m2 : b ∈ led) (m3 : c ∈ led) (m4 : d ∈ led) (r : ∀ p ∈ news, p ∈ led) : News h₀ L h (news ++ [a, b, c, d]) := fun p hp => N p (by
  rcases List.mem_append.mp hp with hp | hp
  · exact r p hp
  · simp only [List.mem_cons, List.not_mem_nil, or_false] at hp
    rcases hp with rfl | rfl | rfl | rfl <;> assumption)
structure Sc where
  k : Nat
  b : Nat
  n : Nat
  nt : Nat
noncomputable def scStep (s : Sc) (c : Nat) : Sc := if c = 32 then ⟨s.k, s.b + 1, s.n + 1, s.nt⟩ else ⟨max s.k (s.b + 1), 0, s.n + 1, s.nt + 1⟩
noncomputable def scan (l : List Nat) : Sc := l.foldl scStep ⟨0, 0, 0, 0⟩
theorem scan_snoc (l : List Nat) (c : Nat) : scan (l ++ [c]) = scStep (scan l) c := by simp [scan]
noncomputable def LeadOk (l : List Nat) : Prop := ∀ i, i < l.length → ∃ c, l[i]? = some c ∧ (c = 32 ∨ (c = 9 ∧ (((scan (l.take i)).b = 0 ∧ (scan (l.take i)).k ≤ 2) ∨ ((scan (l.take i)).b = 1 ∧ (scan (l.take i)).k = 0)))) ∧ (scan (l.take i)).k ≤ 2 ∧ (scan (l.take i)).b ≤ 4 ∧ (scan (l.take i)).n ≤ 11 ∧ (scan (l.take i)).nt ≤ 4
structure WSt where
  lc : Addr
  cs : List Value
  nn : Nat
  b : Int
  tb : Tok
  n : Int
  tn : Tok
  nt : Int
  tnt : Tok
noncomputable def WstP (x d : Addr) (news : List (Addr × Obj)) (l : List Nat) (i : Nat) (c : WSt) : Prop := @Ne Nat c.lc x ∧ @Ne Nat c.lc d ∧ (∀ p ∈ news, p.1 ≠ c.lc) ∧ i ≤ l.length ∧ c.cs.length = (scan (l.take i)).k ∧ c.b = (scan (l.take i)).b ∧ c.n = (scan (l.take i)).n ∧ c.nt = (scan (l.take i)).nt ∧ ∀ v ∈ c.cs, ∃ z t, v = .int z t

noncomputable abbrev wsLoopLed (x d : Addr) (od : Obj) (news : List (Addr × Obj)) (c : WSt) : List (Addr × Obj) := (c.lc, W.listOf c.cs.toArray c.nn) :: (x, instObj 132 d) :: (d, od) :: news
noncomputable abbrev wsLoopPs (c : WSt) : List (Str × Value) := [(Str.ofString "count", .ref c.lc), (Str.ofString "b", .int c.b c.tb), (Str.ofString "n", .int c.n c.tn), (Str.ofString "nt", .int c.nt c.tnt)]
local macro_rules | `(tactic| walk_at "pyIter str") => `(tactic| fail "mine")
local macro_rules | `(tactic| walk_at "SPost") => `(tactic| (dsimp only [SPost]))
local macro_rules | `(tactic| walk_at "exec For Name Attribute cons nil") => `(tactic| (k_here; (rename Fr _ _ _ _ => lF'); (with_unfolding_all refine' For_invVF lF' ?k1 ?k2 ?_; (case k1 => exact rfl); (case k2 => exact rfl); k_whole)))
namespace K_init_spec
set_option maxRecDepth 100000 in
set_option maxHeartbeats 1000000 in
noncomputable def cut : (@Subtype (Prop × Prop) fun P => P.1 → P.2 → ∀ {w : World} {p : Program} {loose : List Str} {mean : ExcName → Option Value} {mg mb : Str → Option Value} {A₀ : Around} {base h₀ : Heap} {L : Addr} {m : Str → Option Value} {cn : Str} {cs : Scope} {ca : Addr} {ccd : Value} {cl : List (Str × Addr)} {outer : List Env} {gd : Option (List Code)} {s : Shared} {Q E : Value → Shared → Prop} {news : List (Addr × Obj)} {tok : Str} {ttok : Tok} {lead : List Nat} {nm : Nat} (B : Below A₀ base outer h₀) (F : Fr h₀ L s.heap m) (X : (Mine.hd.heap_39 w.params).In h₀) (N : News h₀ L s.heap news) (T : Top p loose mean mg mb h₀) (hk : cs.kind = .function) (hz1 : (scan lead).k ≤ 2) (hz2 : (scan lead).b ≤ 5) (hz3 : (scan lead).n ≤ 12) (hz4 : (scan lead).nt ≤ 5) (ht : tok.cps = (lead ++ [nm]).toArray) (hl : LeadOk lead) (hn1 : nm ≠ 32) (hn2 : nm ≠ 9) (h : ∀ x h' tk' fresh, Fr h₀ L h' m → News h₀ L h' (news ++ fresh) → (∀ p ∈ news, ∀ q ∈ fresh, p.1 < q.1) → IsWs fresh x (scan lead).k (scan lead).b (scan lead).n (scan lead).nt → Q (.ref x) { s with heap := h', toks := tk' }), wpAny (model Challenge.rw_pg0196_01.row.prog w) (At 100 gd (envX cn cs L ca ccd cl :: outer)) (call (.ref 132) [.str tok ttok]) Q E s) := by
  refine' mkCut2 fun hole0 hole1 => ?_
  rotate_left
  rotate_left
  focus
  intro w p loose mean mg mb A₀ base h₀ L m cn cs ca ccd cl outer gd s Q E news tok ttok lead nm B F X N T hk hz1 hz2 hz3 hz4 ht hl hn1 hn2 h
  revert X
  k_fill
  intro X
  k_dflt (refine' call_cls ?k1 ?k2 ?k3 ?k4 ?k5 ?k6 ?_; (case k1 => k_asm); (case k2 => k_asm); (case k3 => k_asm); (case k4 => k_is); (case k5 => k_is); (case k6 => k_is); k_whole)
  intro x' d' h' F' N' l1 l2
  replace l1 := allLt_of l1
  replace l2 := ltN l2
  k_dflt ktr_enter
  k_steps
  (rename Fr _ _ _ _ => lF'); (rename News _ _ _ _ => lN')
  (rename _ ∧ _ ∧ _ ∧ AllLt _ news => ll)
  k_dflt (refine' iter_strS (wsLoopLed x' d' _ news) wsLoopPs [] (WstP x' d' news lead) ⟨_, [], _, 0, _, 0, _, 0, _⟩ (by rfl) lF' lN' ?hl ?hk ?hp ?_ ?_)
  case hk => (refine' List.forall_mem_cons.mpr ⟨?a, List.forall_mem_cons.mpr ⟨?b, List.forall_mem_cons.mpr ⟨?c, List.forall_mem_cons.mpr ⟨?d, List.forall_mem_nil _⟩⟩⟩⟩; (case a => with_unfolding_all exact rfl); (case b => with_unfolding_all exact rfl); (case c => with_unfolding_all exact rfl); (case d => with_unfolding_all exact rfl))
  case hl => exact List.forall_mem_cons.mpr ⟨by k_memK, List.forall_mem_cons.mpr ⟨by k_memK, List.forall_mem_cons.mpr ⟨by k_memK, fun p hp => List.mem_cons_of_mem _ (List.mem_cons_of_mem _ (List.mem_cons_of_mem _ (List.mem_cons_of_mem _ hp)))⟩⟩⟩
  case hp => exact ⟨by first | exact Nat.ne_of_gt ll.2.1 | exact Nat.ne_of_lt ll.2.1 | ((have := ll.2.1); dsimp only; omega), by first | exact Nat.ne_of_gt ll.2.2.1 | exact Nat.ne_of_lt ll.2.2.1 | ((have := ll.2.2.1); dsimp only; omega), allLt_ne ll.2.2.2, Nat.zero_le _, rfl, rfl, rfl, rfl, List.forall_mem_nil _⟩
  all_goals (try clear lF' lN')
  all_goals (try clear ll)
  · rintro i ⟨lc, cv, nn, b, tb, n, tn, nt, tnt⟩ ch t u h' tk own I oI hch ⟨g1, g2, g3, hi, h1, h2, h3, h4, h5⟩ hI hmem hw F' N'
    dsimp only at g1 g2 g3 h1 h2 h3 h4 h5 hI
    dsimp only [wsLoopLed, List.cons_append, List.nil_append] at N' hI
    dsimp only [wsLoopPs] at F'
    have hI1 : @Ne Nat lc I := hI _ (.head _)
    have hI2 : @Ne Nat x' I := hI _ (.tail _ (.head _))
    have hI3 : @Ne Nat d' I := hI _ (.tail _ (.tail _ (.head _)))
    have hI4 : ∀ p ∈ news, p.1 ≠ I := fun p hp => hI p (List.mem_cons_of_mem _ (List.mem_cons_of_mem _ (List.mem_cons_of_mem _ hp)))
    have q1 : ∀ p ∈ news ++ own, p.1 ≠ lc := fun p hp => (List.mem_append.mp hp).elim (g3 p) fun h e => hI1 (e.symm.trans (hw p h))
    have q2 : ∀ p ∈ news ++ own, p.1 ≠ d' := fun p hp => (List.mem_append.mp hp).elim (allLt_ne l1 p) fun h e => hI3 (e.symm.trans (hw p h))
    subst h2 h3 h4
    by_cases hlt : i < lead.length
    · rename_i v_1 i_2 i_3 v_4 v_5 v_6 i_7 i_8 i_9 i_10 v_11 v_12 v_13 v_14 i_15 v_16 v_17 v_18 v_19 v_20 v_21 v_22 v_23 v_24 v_25 v_26
      revert B F N T hk hz1 hz2 hz3 hz4 ht hl hn1 hn2 h X i_2 i_3 l1 l2 i_7 i_8 i_9 i_10 i_15 hch g1 g2 g3 hi h1 h5 hI hmem hw N' hI1 hI2 hI3 hI4 q1 q2 F' hlt
      revert qk ek
      dsimp (config := { beta := false, eta := false, etaStruct := .none, iota := false, proj := false }) only
      revert cv ch
      revert w p loose mean mg mb A₀ base h₀ L m cn cs ca ccd cl outer gd s Q E news tok ttok lead nm x' d' v_1 v_4 v_5 v_6 v_11 v_12 v_13 v_14 v_16 v_17 v_18 v_19 v_20 v_21 v_22 v_23 v_24 v_25 v_26 i lc nn tb tn tnt t u h' tk own I oI
      exact no_implicit_lambda% hole0.get
    · rename_i v_1 i_2 i_3 v_4 v_5 v_6 i_7 i_8 i_9 i_10 v_11 v_12 v_13 v_14 i_15 v_16 v_17 v_18 v_19 v_20 v_21 v_22 v_23 v_24 v_25 v_26
      revert B F N T hk hz1 hz2 hz3 hz4 ht hl hn1 hn2 h X i_2 i_3 l1 l2 i_7 i_8 i_9 i_10 i_15 hch g1 g2 g3 hi h1 h5 hI hmem hw N' hI1 hI2 hI3 hI4 q1 q2 F' hlt
      revert qk ek
      dsimp (config := { beta := false, eta := false, etaStruct := .none, iota := false, proj := false }) only
      revert i cv ch
      revert w p loose mean mg mb A₀ base h₀ L m cn cs ca ccd cl outer gd s Q E news tok ttok lead nm x' d' v_1 v_4 v_5 v_6 v_11 v_12 v_13 v_14 v_16 v_17 v_18 v_19 v_20 v_21 v_22 v_23 v_24 v_25 v_26 lc nn tb tn tnt t u h' tk own I oI
      exact no_implicit_lambda% hole1.get
  · rintro ⟨lc, cv, nn, b, tb, n, tn, nt, tnt⟩ u h' tk ⟨g1, g2, g3, hi, h1⟩ F' N'
    rw [ht] at hi
    simp at hi
    omega
namespace r0
noncomputable section
noncomputable def Pcut : (World) → (Program) → (List Str) → (ExcName → Option Value) → (Str → Option Value) → (Str → Option Value) → (Around) → (Heap) → (Heap) → (Addr) → (Str → Option Value) → (Str) → (Scope) → (Addr) → (Value) → (List (Str × Addr)) → (List Env) → (Option (List Code)) → (Shared) → (Value → Shared → Prop) → (Value → Shared → Prop) → (List (Addr × Obj)) → (Str) → (Tok) → (List Nat) → (Nat) → (Addr) → (Addr) → (Heap) → (Heap) → (Addr) → (Heap) → (Nat) → (Heap) → (Addr) → (Heap) → (Heap) → (Heap) → (Heap) → (Nat) → (Addr) → (Heap) → (Heap) → (Nat) → (Heap) → (Heap) → (Heap) → (Nat) → (Addr) → (Nat) → (Tok) → (Tok) → (Tok) → (Tok) → (Str → Option Value) → (Heap) → (Nat) → (List (Addr × Obj)) → (Addr) → (Obj) → Prop := (@id (∀ {Rcut : (World) → (Program) → (List Str) → (ExcName → Option Value) → (Str → Option Value) → (Str → Option Value) → (Around) → (Heap) → (Heap) → (Addr) → (Str → Option Value) → (Str) → (Scope) → (Addr) → (Value) → (List (Str × Addr)) → (List Env) → (Option (List Code)) → (Shared) → (Value → Shared → Prop) → (Value → Shared → Prop) → (List (Addr × Obj)) → (Str) → (Tok) → (List Nat) → (Nat) → (Addr) → (Addr) → (Heap) → (Heap) → (Addr) → (Heap) → (Nat) → (Heap) → (Addr) → (Heap) → (Heap) → (Heap) → (Heap) → (Nat) → (Addr) → (Heap) → (Heap) → (Nat) → (Heap) → (Heap) → (Heap) → (Nat) → (Addr) → (Nat) → (Tok) → (Tok) → (Tok) → (Tok) → (Str → Option Value) → (Heap) → (Nat) → (List (Addr × Obj)) → (Addr) → (Obj) → Prop}, cut.1.1 = (∀ w p loose mean mg mb A₀ base h₀ L m cn cs ca ccd cl outer gd s Q E news tok ttok lead nm x' d' v_1 v_4 v_5 v_6 v_11 v_12 v_13 v_14 v_16 v_17 v_18 v_19 v_20 v_21 v_22 v_23 v_24 v_25 v_26 i lc nn tb tn tnt t u h' tk own I oI, Rcut w p loose mean mg mb A₀ base h₀ L m cn cs ca ccd cl outer gd s Q E news tok ttok lead nm x' d' v_1 v_4 v_5 v_6 v_11 v_12 v_13 v_14 v_16 v_17 v_18 v_19 v_20 v_21 v_22 v_23 v_24 v_25 v_26 i lc nn tb tn tnt t u h' tk own I oI) → _) fun {Rcut} _ => Rcut) rfl
noncomputable def Tcut : Type := (World × Program × (List Str) × (ExcName → Option Value) × (Str → Option Value) × (Str → Option Value) × Around × Heap) × (Heap × Addr × (Str → Option Value) × Str × Scope × Addr × Value × (List (Str × Addr))) × ((List Env) × (Option (List Code)) × Shared × (Value → Shared → Prop) × (Value → Shared → Prop) × (List (Addr × Obj)) × Str × Tok) × ((List Nat) × Nat × Addr × Addr × Heap × Heap × Addr × Heap) × (Nat × Heap × Addr × Heap × Heap × Heap × Heap × Nat) × (Addr × Heap × Heap × Nat × Heap × Heap × Heap × Nat) × (Addr × Nat × Tok × Tok × Tok × Tok × (Str → Option Value) × Heap) × (Nat × (List (Addr × Obj)) × Addr × Obj)
noncomputable def Qcut (x : Tcut) : Prop := Pcut x.1.1 x.1.2.1 x.1.2.2.1 x.1.2.2.2.1 x.1.2.2.2.2.1 x.1.2.2.2.2.2.1 x.1.2.2.2.2.2.2.1 x.1.2.2.2.2.2.2.2 x.2.1.1 x.2.1.2.1 x.2.1.2.2.1 x.2.1.2.2.2.1 x.2.1.2.2.2.2.1 x.2.1.2.2.2.2.2.1 x.2.1.2.2.2.2.2.2.1 x.2.1.2.2.2.2.2.2.2 x.2.2.1.1 x.2.2.1.2.1 x.2.2.1.2.2.1 x.2.2.1.2.2.2.1 x.2.2.1.2.2.2.2.1 x.2.2.1.2.2.2.2.2.1 x.2.2.1.2.2.2.2.2.2.1 x.2.2.1.2.2.2.2.2.2.2 x.2.2.2.1.1 x.2.2.2.1.2.1 x.2.2.2.1.2.2.1 x.2.2.2.1.2.2.2.1 x.2.2.2.1.2.2.2.2.1 x.2.2.2.1.2.2.2.2.2.1 x.2.2.2.1.2.2.2.2.2.2.1 x.2.2.2.1.2.2.2.2.2.2.2 x.2.2.2.2.1.1 x.2.2.2.2.1.2.1 x.2.2.2.2.1.2.2.1 x.2.2.2.2.1.2.2.2.1 x.2.2.2.2.1.2.2.2.2.1 x.2.2.2.2.1.2.2.2.2.2.1 x.2.2.2.2.1.2.2.2.2.2.2.1 x.2.2.2.2.1.2.2.2.2.2.2.2 x.2.2.2.2.2.1.1 x.2.2.2.2.2.1.2.1 x.2.2.2.2.2.1.2.2.1 x.2.2.2.2.2.1.2.2.2.1 x.2.2.2.2.2.1.2.2.2.2.1 x.2.2.2.2.2.1.2.2.2.2.2.1 x.2.2.2.2.2.1.2.2.2.2.2.2.1 x.2.2.2.2.2.1.2.2.2.2.2.2.2 x.2.2.2.2.2.2.1.1 x.2.2.2.2.2.2.1.2.1 x.2.2.2.2.2.2.1.2.2.1 x.2.2.2.2.2.2.1.2.2.2.1 x.2.2.2.2.2.2.1.2.2.2.2.1 x.2.2.2.2.2.2.1.2.2.2.2.2.1 x.2.2.2.2.2.2.1.2.2.2.2.2.2.1 x.2.2.2.2.2.2.1.2.2.2.2.2.2.2 x.2.2.2.2.2.2.2.1 x.2.2.2.2.2.2.2.2.1 x.2.2.2.2.2.2.2.2.2.1 x.2.2.2.2.2.2.2.2.2.2
theorem ex_cut : ∃ x : Tcut, Qcut x → ∀ y, Qcut y := by
  haveI := neW; haveI := neA; haveI := neS
  haveI : Nonempty Tcut := by unfold Tcut; set_option synthInstance.maxSize 2000 in infer_instance
  exact henk1 Qcut
noncomputable def Ccut : Tcut := Classical.choose ex_cut
@[irreducible] noncomputable def w : World := Ccut.1.1
@[irreducible] noncomputable def p : Program := Ccut.1.2.1
@[irreducible] noncomputable def loose : List Str := Ccut.1.2.2.1
@[irreducible] noncomputable def mean : ExcName → Option Value := Ccut.1.2.2.2.1
@[irreducible] noncomputable def mg : Str → Option Value := Ccut.1.2.2.2.2.1
@[irreducible] noncomputable def mb : Str → Option Value := Ccut.1.2.2.2.2.2.1
@[irreducible] noncomputable def A₀ : Around := Ccut.1.2.2.2.2.2.2.1
@[irreducible] noncomputable def base : Heap := Ccut.1.2.2.2.2.2.2.2
@[irreducible] noncomputable def h₀ : Heap := Ccut.2.1.1
@[irreducible] noncomputable def L : Addr := Ccut.2.1.2.1
@[irreducible] noncomputable def m : Str → Option Value := Ccut.2.1.2.2.1
@[irreducible] noncomputable def cn : Str := Ccut.2.1.2.2.2.1
@[irreducible] noncomputable def cs : Scope := Ccut.2.1.2.2.2.2.1
@[irreducible] noncomputable def ca : Addr := Ccut.2.1.2.2.2.2.2.1
@[irreducible] noncomputable def ccd : Value := Ccut.2.1.2.2.2.2.2.2.1
@[irreducible] noncomputable def cl : List (Str × Addr) := Ccut.2.1.2.2.2.2.2.2.2
@[irreducible] noncomputable def outer : List Env := Ccut.2.2.1.1
@[irreducible] noncomputable def gd : Option (List Code) := Ccut.2.2.1.2.1
@[irreducible] noncomputable def s : Shared := Ccut.2.2.1.2.2.1
@[irreducible] noncomputable def Q : Value → Shared → Prop := Ccut.2.2.1.2.2.2.1
@[irreducible] noncomputable def E : Value → Shared → Prop := Ccut.2.2.1.2.2.2.2.1
@[irreducible] noncomputable def news : List (Addr × Obj) := Ccut.2.2.1.2.2.2.2.2.1
@[irreducible] noncomputable def tok : Str := Ccut.2.2.1.2.2.2.2.2.2.1
@[irreducible] noncomputable def ttok : Tok := Ccut.2.2.1.2.2.2.2.2.2.2
@[irreducible] noncomputable def lead : List Nat := Ccut.2.2.2.1.1
@[irreducible] noncomputable def nm : Nat := Ccut.2.2.2.1.2.1
@[irreducible] noncomputable def x' : Addr := Ccut.2.2.2.1.2.2.1
@[irreducible] noncomputable def d' : Addr := Ccut.2.2.2.1.2.2.2.1
@[irreducible] noncomputable def v_1 : Heap := Ccut.2.2.2.1.2.2.2.2.1
@[irreducible] noncomputable def v_4 : Heap := Ccut.2.2.2.1.2.2.2.2.2.1
@[irreducible] noncomputable def v_5 : Addr := Ccut.2.2.2.1.2.2.2.2.2.2.1
@[irreducible] noncomputable def v_6 : Heap := Ccut.2.2.2.1.2.2.2.2.2.2.2
@[irreducible] noncomputable def v_11 : Nat := Ccut.2.2.2.2.1.1
@[irreducible] noncomputable def v_12 : Heap := Ccut.2.2.2.2.1.2.1
@[irreducible] noncomputable def v_13 : Addr := Ccut.2.2.2.2.1.2.2.1
@[irreducible] noncomputable def v_14 : Heap := Ccut.2.2.2.2.1.2.2.2.1
@[irreducible] noncomputable def v_16 : Heap := Ccut.2.2.2.2.1.2.2.2.2.1
@[irreducible] noncomputable def v_17 : Heap := Ccut.2.2.2.2.1.2.2.2.2.2.1
@[irreducible] noncomputable def v_18 : Heap := Ccut.2.2.2.2.1.2.2.2.2.2.2.1
@[irreducible] noncomputable def v_19 : Nat := Ccut.2.2.2.2.1.2.2.2.2.2.2.2
@[irreducible] noncomputable def v_20 : Addr := Ccut.2.2.2.2.2.1.1
@[irreducible] noncomputable def v_21 : Heap := Ccut.2.2.2.2.2.1.2.1
@[irreducible] noncomputable def v_22 : Heap := Ccut.2.2.2.2.2.1.2.2.1
@[irreducible] noncomputable def v_23 : Nat := Ccut.2.2.2.2.2.1.2.2.2.1
@[irreducible] noncomputable def v_24 : Heap := Ccut.2.2.2.2.2.1.2.2.2.2.1
@[irreducible] noncomputable def v_25 : Heap := Ccut.2.2.2.2.2.1.2.2.2.2.2.1
@[irreducible] noncomputable def v_26 : Heap := Ccut.2.2.2.2.2.1.2.2.2.2.2.2.1
@[irreducible] noncomputable def i : Nat := Ccut.2.2.2.2.2.1.2.2.2.2.2.2.2
@[irreducible] noncomputable def lc : Addr := Ccut.2.2.2.2.2.2.1.1
@[irreducible] noncomputable def nn : Nat := Ccut.2.2.2.2.2.2.1.2.1
@[irreducible] noncomputable def tb : Tok := Ccut.2.2.2.2.2.2.1.2.2.1
@[irreducible] noncomputable def tn : Tok := Ccut.2.2.2.2.2.2.1.2.2.2.1
@[irreducible] noncomputable def tnt : Tok := Ccut.2.2.2.2.2.2.1.2.2.2.2.1
@[irreducible] noncomputable def t : Tok := Ccut.2.2.2.2.2.2.1.2.2.2.2.2.1
@[irreducible] noncomputable def u : Str → Option Value := Ccut.2.2.2.2.2.2.1.2.2.2.2.2.2.1
@[irreducible] noncomputable def h' : Heap := Ccut.2.2.2.2.2.2.1.2.2.2.2.2.2.2
@[irreducible] noncomputable def tk : Nat := Ccut.2.2.2.2.2.2.2.1
@[irreducible] noncomputable def own : List (Addr × Obj) := Ccut.2.2.2.2.2.2.2.2.1
@[irreducible] noncomputable def I : Addr := Ccut.2.2.2.2.2.2.2.2.2.1
@[irreducible] noncomputable def oI : Obj := Ccut.2.2.2.2.2.2.2.2.2.2
end
set_option maxRecDepth 100000 in
set_option maxHeartbeats 1000000 in
theorem at_cut : Pcut w p loose mean mg mb A₀ base h₀ L m cn cs ca ccd cl outer gd s Q E news tok ttok lead nm x' d' v_1 v_4 v_5 v_6 v_11 v_12 v_13 v_14 v_16 v_17 v_18 v_19 v_20 v_21 v_22 v_23 v_24 v_25 v_26 i lc nn tb tn tnt t u h' tk own I oI := by
  intro cv ch B F N T hk hz1 hz2 hz3 hz4 ht hl hn1 hn2 h X i_2 i_3 l1 l2 i_7 i_8 i_9 i_10 i_15 hch g1 g2 g3 hi h1 h5 hI hmem hw N' hI1 hI2 hI3 hI4 q1 q2 F' hlt
  obtain ⟨c, hc, hcase, hk2, hb4, hn11, hnt4⟩ := hl i hlt
  have hcc : ch = c := by
    rw [ht] at hch
    simp only [List.getElem?_toArray] at hch
    rw [List.getElem?_append_left hlt, hc] at hch
    exact (Option.some.inj hch).symm
  subst hcc
  have hst : scan (lead.take (i + 1)) = scStep (scan (lead.take i)) ch := by
    rw [List.take_add_one, hc]; exact scan_snoc _ _
  have hI' : i + 1 ≤ lead.length := hlt
  rcases hcase with rfl | ⟨rfl, hcase⟩
  · generalize (scan (lead.take i)) = z at *
    obtain ⟨zk, zb, zn, znt⟩ := z
    dsimp only at *
    k_steps
    k_dflt (refine' SEnd.intro ⟨lc, cv, nn, (zb : Int) + 1, _, (zn : Int) + 1, _, znt, tnt⟩ ?ps ?F ?N ?hl ?ho ?hI ?hz ?hP)
    case F => k_asm
    case N => k_asm
    case ps => (refine' List.forall_mem_cons.mpr ⟨?a, List.forall_mem_cons.mpr ⟨?b, List.forall_mem_cons.mpr ⟨?c, List.forall_mem_cons.mpr ⟨?d, List.forall_mem_nil _⟩⟩⟩⟩; (case a => with_unfolding_all exact rfl); (case b => with_unfolding_all exact rfl); (case c => with_unfolding_all exact rfl); (case d => with_unfolding_all exact rfl))
    case hl => exact fun p hp => List.mem_append_left own hp
    case ho => exact fun p hp => by (repeat (first | exact List.mem_append_right _ hp | refine List.mem_cons_of_mem _ ?_))
    case hz => (intro z h1 h2 h3; (have e1 := h2 _ (.head _)); (have e2 := h2 _ (.tail _ (.head _))); (have e3 := h2 _ (.tail _ (.tail _ (.head _)))); (have e4 := h2 _ (.tail _ (.tail _ (.tail _ (.head _))))); clear h2; dsimp only at e1 e2 e3 e4; (try dsimp only [kstB]); first | ((repeat (refine (if_neg (by assumption)).trans ?_)); rfl) | ((repeat (refine (if_neg (by assumption)).trans ?_)); (repeat (refine Eq.trans ?_ (if_neg (by assumption)).symm)); rfl) | (trace "HZOLD"; simp only [if_neg h1, if_neg e1, if_neg e2, if_neg e3, if_neg e4, kstB]; first | done | rfl))
    case hI => exact hI
    case hP => exact ⟨g1, g2, g3, hI', by rw [hst]; exact h1, by rw [hst]; first | rfl | simp [scStep], by rw [hst]; first | rfl | simp [scStep], by rw [hst]; first | rfl | simp [scStep], h5⟩
  · generalize (scan (lead.take i)) = z at *
    obtain ⟨zk, zb, zn, znt⟩ := z
    dsimp only at *
    rcases hcase with ⟨rfl, hkk⟩ | ⟨rfl, rfl⟩
    · rcases len_le2 (by first | exact Nat.le_trans (Nat.le_of_eq h1) hkk.2 | exact Nat.le_trans (Nat.le_of_eq h1) hkk | (rw [h1]; assumption) | omega : cv.length ≤ 2) with rfl | ⟨v1, rfl⟩ | ⟨v1, v2, rfl⟩
      · k_steps
        (rename _ ∧ _ ∧ _ ∧ _ ∧ _ ∧ AllLt _ (news ++ own) => ll)
        have hnl := kst_ltOf ll.2.2.2.2.2
        k_dflt (refine' SEnd.intro ⟨_, _, _, 0, _, (zn : Int) + 1, _, (znt : Int) + 1, _⟩ ?ps ?F ?N ?hl ?ho ?hI ?hz ?hP)
        case F => k_asm
        case N => k_asm
        case ps => (refine' List.forall_mem_cons.mpr ⟨?a, List.forall_mem_cons.mpr ⟨?b, List.forall_mem_cons.mpr ⟨?c, List.forall_mem_cons.mpr ⟨?d, List.forall_mem_nil _⟩⟩⟩⟩; (case a => with_unfolding_all exact rfl); (case b => with_unfolding_all exact rfl); (case c => with_unfolding_all exact rfl); (case d => with_unfolding_all exact rfl))
        case hl => exact List.forall_mem_cons.mpr ⟨by k_memK, List.forall_mem_cons.mpr ⟨by k_memK, List.forall_mem_cons.mpr ⟨by k_memK, (fun p hp => by (repeat (first | exact List.mem_append_left _ hp | refine List.mem_cons_of_mem _ ?_)))⟩⟩⟩
        case ho => exact fun p hp => by (repeat (first | exact List.mem_append_right _ hp | refine List.mem_cons_of_mem _ ?_))
        case hz => (intro z h1 h2 h3; (have e1 := h2 _ (.head _)); (have e2 := h2 _ (.tail _ (.head _))); (have e3 := h2 _ (.tail _ (.tail _ (.head _)))); (have e4 := h2 _ (.tail _ (.tail _ (.tail _ (.head _))))); clear h2; dsimp only at e1 e2 e3 e4; (try dsimp only [kstB]); first | ((repeat (refine (if_neg (by assumption)).trans ?_)); rfl) | ((repeat (refine (if_neg (by assumption)).trans ?_)); (repeat (refine Eq.trans ?_ (if_neg (by assumption)).symm)); rfl) | (trace "HZOLD"; simp only [if_neg h1, if_neg e1, if_neg e2, if_neg e3, if_neg e4, kstB]; first | done | rfl))
        case hI => exact List.forall_mem_cons.mpr ⟨by (have q := hnl (I, oI) (List.mem_append_right _ hmem)); dsimp only at q ⊢; exact Nat.ne_of_gt q, List.forall_mem_cons.mpr ⟨hI2, List.forall_mem_cons.mpr ⟨hI3, hI4⟩⟩⟩
        case hP => exact ⟨by first | exact Nat.ne_of_gt ll.2.2.2.1 | exact Nat.ne_of_lt ll.2.2.2.1 | ((have := ll.2.2.2.1); dsimp only; omega), by first | exact Nat.ne_of_gt ll.2.2.2.2.1 | exact Nat.ne_of_lt ll.2.2.2.2.1 | ((have := ll.2.2.2.2.1); dsimp only; omega), fun p hp => Nat.ne_of_lt (hnl p (List.mem_append_left _ hp)), hI', by rw [hst]; first | rfl | (subst h1; rfl) | (simp [scStep] at h1 ⊢; (try omega)), by rw [hst]; first | rfl | simp [scStep], by rw [hst]; first | rfl | simp [scStep], by rw [hst]; first | rfl | simp [scStep], by (repeat' (first | exact List.forall_mem_nil _ | refine List.forall_mem_cons.mpr ⟨⟨_, _, rfl⟩, ?_⟩))⟩
      · obtain ⟨z1, y1, rfl⟩ := h5 _ (.head _)
        k_steps
        k_dflt (refine' SEnd.intro ⟨lc, _, _, 0, _, (zn : Int) + 1, _, (znt : Int) + 1, _⟩ ?ps ?F ?N ?hl ?ho ?hI ?hz ?hP)
        case F => k_asm
        case N => k_asm
        case ps => (refine' List.forall_mem_cons.mpr ⟨?a, List.forall_mem_cons.mpr ⟨?b, List.forall_mem_cons.mpr ⟨?c, List.forall_mem_cons.mpr ⟨?d, List.forall_mem_nil _⟩⟩⟩⟩; (case a => with_unfolding_all exact rfl); (case b => with_unfolding_all exact rfl); (case c => with_unfolding_all exact rfl); (case d => with_unfolding_all exact rfl))
        case hl => exact List.forall_mem_cons.mpr ⟨by k_memK, List.forall_mem_cons.mpr ⟨by k_memK, List.forall_mem_cons.mpr ⟨by k_memK, (fun p hp => by (repeat (first | exact List.mem_append_left _ hp | refine List.mem_cons_of_mem _ ?_)))⟩⟩⟩
        case ho => exact fun p hp => by (repeat (first | exact List.mem_append_right _ hp | refine List.mem_cons_of_mem _ ?_))
        case hz => (intro z h1 h2 h3; (have e1 := h2 _ (.head _)); (have e2 := h2 _ (.tail _ (.head _))); (have e3 := h2 _ (.tail _ (.tail _ (.head _)))); (have e4 := h2 _ (.tail _ (.tail _ (.tail _ (.head _))))); clear h2; dsimp only at e1 e2 e3 e4; (try dsimp only [kstB]); first | ((repeat (refine (if_neg (by assumption)).trans ?_)); rfl) | ((repeat (refine (if_neg (by assumption)).trans ?_)); (repeat (refine Eq.trans ?_ (if_neg (by assumption)).symm)); rfl) | (trace "HZOLD"; simp only [if_neg h1, if_neg e1, if_neg e2, if_neg e3, if_neg e4, kstB]; first | done | rfl))
        case hI => exact List.forall_mem_cons.mpr ⟨hI1, List.forall_mem_cons.mpr ⟨hI2, List.forall_mem_cons.mpr ⟨hI3, hI4⟩⟩⟩
        case hP => exact ⟨g1, g2, g3, hI', by rw [hst]; first | rfl | (subst h1; rfl) | (simp [scStep] at h1 ⊢; (try omega)), by rw [hst]; first | rfl | simp [scStep], by rw [hst]; first | rfl | simp [scStep], by rw [hst]; first | rfl | simp [scStep], by (repeat' (first | exact List.forall_mem_nil _ | refine List.forall_mem_cons.mpr ⟨⟨_, _, rfl⟩, ?_⟩))⟩
      · obtain ⟨z1, y1, rfl⟩ := h5 _ (.head _)
        obtain ⟨z2, y2, rfl⟩ := h5 _ (.tail _ (.head _))
        k_steps
        k_dflt (refine' SEnd.intro ⟨lc, _, _, 0, _, (zn : Int) + 1, _, (znt : Int) + 1, _⟩ ?ps ?F ?N ?hl ?ho ?hI ?hz ?hP)
        case F => k_asm
        case N => k_asm
        case ps => (refine' List.forall_mem_cons.mpr ⟨?a, List.forall_mem_cons.mpr ⟨?b, List.forall_mem_cons.mpr ⟨?c, List.forall_mem_cons.mpr ⟨?d, List.forall_mem_nil _⟩⟩⟩⟩; (case a => with_unfolding_all exact rfl); (case b => with_unfolding_all exact rfl); (case c => with_unfolding_all exact rfl); (case d => with_unfolding_all exact rfl))
        case hl => exact List.forall_mem_cons.mpr ⟨by k_memK, List.forall_mem_cons.mpr ⟨by k_memK, List.forall_mem_cons.mpr ⟨by k_memK, (fun p hp => by (repeat (first | exact List.mem_append_left _ hp | refine List.mem_cons_of_mem _ ?_)))⟩⟩⟩
        case ho => exact fun p hp => by (repeat (first | exact List.mem_append_right _ hp | refine List.mem_cons_of_mem _ ?_))
        case hz => (intro z h1 h2 h3; (have e1 := h2 _ (.head _)); (have e2 := h2 _ (.tail _ (.head _))); (have e3 := h2 _ (.tail _ (.tail _ (.head _)))); (have e4 := h2 _ (.tail _ (.tail _ (.tail _ (.head _))))); clear h2; dsimp only at e1 e2 e3 e4; (try dsimp only [kstB]); first | ((repeat (refine (if_neg (by assumption)).trans ?_)); rfl) | ((repeat (refine (if_neg (by assumption)).trans ?_)); (repeat (refine Eq.trans ?_ (if_neg (by assumption)).symm)); rfl) | (trace "HZOLD"; simp only [if_neg h1, if_neg e1, if_neg e2, if_neg e3, if_neg e4, kstB]; first | done | rfl))
        case hI => exact List.forall_mem_cons.mpr ⟨hI1, List.forall_mem_cons.mpr ⟨hI2, List.forall_mem_cons.mpr ⟨hI3, hI4⟩⟩⟩
        case hP => exact ⟨g1, g2, g3, hI', by rw [hst]; first | rfl | (subst h1; rfl) | (simp [scStep] at h1 ⊢; (try omega)), by rw [hst]; first | rfl | simp [scStep], by rw [hst]; first | rfl | simp [scStep], by rw [hst]; first | rfl | simp [scStep], by (repeat' (first | exact List.forall_mem_nil _ | refine List.forall_mem_cons.mpr ⟨⟨_, _, rfl⟩, ?_⟩))⟩
    · obtain rfl := List.eq_nil_of_length_eq_zero h1
      k_steps
      (rename _ ∧ _ ∧ _ ∧ _ ∧ _ ∧ AllLt _ (news ++ own) => ll)
      have hnl := kst_ltOf ll.2.2.2.2.2
      k_dflt (refine' SEnd.intro ⟨_, _, _, 0, _, (zn : Int) + 1, _, (znt : Int) + 1, _⟩ ?ps ?F ?N ?hl ?ho ?hI ?hz ?hP)
      case F => k_asm
      case N => k_asm
      case ps => (refine' List.forall_mem_cons.mpr ⟨?a, List.forall_mem_cons.mpr ⟨?b, List.forall_mem_cons.mpr ⟨?c, List.forall_mem_cons.mpr ⟨?d, List.forall_mem_nil _⟩⟩⟩⟩; (case a => with_unfolding_all exact rfl); (case b => with_unfolding_all exact rfl); (case c => with_unfolding_all exact rfl); (case d => with_unfolding_all exact rfl))
      case hl => exact List.forall_mem_cons.mpr ⟨by k_memK, List.forall_mem_cons.mpr ⟨by k_memK, List.forall_mem_cons.mpr ⟨by k_memK, (fun p hp => by (repeat (first | exact List.mem_append_left _ hp | refine List.mem_cons_of_mem _ ?_)))⟩⟩⟩
      case ho => exact fun p hp => by (repeat (first | exact List.mem_append_right _ hp | refine List.mem_cons_of_mem _ ?_))
      case hz => (intro z h1 h2 h3; (have e1 := h2 _ (.head _)); (have e2 := h2 _ (.tail _ (.head _))); (have e3 := h2 _ (.tail _ (.tail _ (.head _)))); (have e4 := h2 _ (.tail _ (.tail _ (.tail _ (.head _))))); clear h2; dsimp only at e1 e2 e3 e4; (try dsimp only [kstB]); first | ((repeat (refine (if_neg (by assumption)).trans ?_)); rfl) | ((repeat (refine (if_neg (by assumption)).trans ?_)); (repeat (refine Eq.trans ?_ (if_neg (by assumption)).symm)); rfl) | (trace "HZOLD"; simp only [if_neg h1, if_neg e1, if_neg e2, if_neg e3, if_neg e4, kstB]; first | done | rfl))
      case hI => exact List.forall_mem_cons.mpr ⟨by (have q := hnl (I, oI) (List.mem_append_right _ hmem)); dsimp only at q ⊢; exact Nat.ne_of_gt q, List.forall_mem_cons.mpr ⟨hI2, List.forall_mem_cons.mpr ⟨hI3, hI4⟩⟩⟩
      case hP => exact ⟨by first | exact Nat.ne_of_gt ll.2.2.2.1 | exact Nat.ne_of_lt ll.2.2.2.1 | ((have := ll.2.2.2.1); dsimp only; omega), by first | exact Nat.ne_of_gt ll.2.2.2.2.1 | exact Nat.ne_of_lt ll.2.2.2.2.1 | ((have := ll.2.2.2.2.1); dsimp only; omega), fun p hp => Nat.ne_of_lt (hnl p (List.mem_append_left _ hp)), hI', by rw [hst]; first | rfl | (subst h1; rfl) | (simp [scStep] at h1 ⊢; (try omega)), by rw [hst]; first | rfl | simp [scStep], by rw [hst]; first | rfl | simp [scStep], by rw [hst]; first | rfl | simp [scStep], by (repeat' (first | exact List.forall_mem_nil _ | refine List.forall_mem_cons.mpr ⟨⟨_, _, rfl⟩, ?_⟩))⟩
theorem all_cut : ∀ w p loose mean mg mb A₀ base h₀ L m cn cs ca ccd cl outer gd s Q E news tok ttok lead nm x' d' v_1 v_4 v_5 v_6 v_11 v_12 v_13 v_14 v_16 v_17 v_18 v_19 v_20 v_21 v_22 v_23 v_24 v_25 v_26 i lc nn tb tn tnt t u h' tk own I oI, Pcut w p loose mean mg mb A₀ base h₀ L m cn cs ca ccd cl outer gd s Q E news tok ttok lead nm x' d' v_1 v_4 v_5 v_6 v_11 v_12 v_13 v_14 v_16 v_17 v_18 v_19 v_20 v_21 v_22 v_23 v_24 v_25 v_26 i lc nn tb tn tnt t u h' tk own I oI := by
  have h : Pcut w p loose mean mg mb A₀ base h₀ L m cn cs ca ccd cl outer gd s Q E news tok ttok lead nm x' d' v_1 v_4 v_5 v_6 v_11 v_12 v_13 v_14 v_16 v_17 v_18 v_19 v_20 v_21 v_22 v_23 v_24 v_25 v_26 i lc nn tb tn tnt t u h' tk own I oI := at_cut
  delta w p loose mean mg mb A₀ base h₀ L m cn cs ca ccd cl outer gd s Q E news tok ttok lead nm x' d' v_1 v_4 v_5 v_6 v_11 v_12 v_13 v_14 v_16 v_17 v_18 v_19 v_20 v_21 v_22 v_23 v_24 v_25 v_26 i lc nn tb tn tnt t u h' tk own I oI at h
  exact fun w p loose mean mg mb A₀ base h₀ L m cn cs ca ccd cl outer gd s Q E news tok ttok lead nm x' d' v_1 v_4 v_5 v_6 v_11 v_12 v_13 v_14 v_16 v_17 v_18 v_19 v_20 v_21 v_22 v_23 v_24 v_25 v_26 i lc nn tb tn tnt t u h' tk own I oI => Classical.choose_spec ex_cut h ((w, p, loose, mean, mg, mb, A₀, base), (h₀, L, m, cn, cs, ca, ccd, cl), (outer, gd, s, Q, E, news, tok, ttok), (lead, nm, x', d', v_1, v_4, v_5, v_6), (v_11, v_12, v_13, v_14, v_16, v_17, v_18, v_19), (v_20, v_21, v_22, v_23, v_24, v_25, v_26, i), (lc, nn, tb, tn, tnt, t, u, h'), (tk, own, I, oI))
end r0
namespace r1
noncomputable section
noncomputable def Pcut : (World) → (Program) → (List Str) → (ExcName → Option Value) → (Str → Option Value) → (Str → Option Value) → (Around) → (Heap) → (Heap) → (Addr) → (Str → Option Value) → (Str) → (Scope) → (Addr) → (Value) → (List (Str × Addr)) → (List Env) → (Option (List Code)) → (Shared) → (Value → Shared → Prop) → (Value → Shared → Prop) → (List (Addr × Obj)) → (Str) → (Tok) → (List Nat) → (Nat) → (Addr) → (Addr) → (Heap) → (Heap) → (Addr) → (Heap) → (Nat) → (Heap) → (Addr) → (Heap) → (Heap) → (Heap) → (Heap) → (Nat) → (Addr) → (Heap) → (Heap) → (Nat) → (Heap) → (Heap) → (Heap) → (Addr) → (Nat) → (Tok) → (Tok) → (Tok) → (Tok) → (Str → Option Value) → (Heap) → (Nat) → (List (Addr × Obj)) → (Addr) → (Obj) → Prop := (@id (∀ {Rcut : (World) → (Program) → (List Str) → (ExcName → Option Value) → (Str → Option Value) → (Str → Option Value) → (Around) → (Heap) → (Heap) → (Addr) → (Str → Option Value) → (Str) → (Scope) → (Addr) → (Value) → (List (Str × Addr)) → (List Env) → (Option (List Code)) → (Shared) → (Value → Shared → Prop) → (Value → Shared → Prop) → (List (Addr × Obj)) → (Str) → (Tok) → (List Nat) → (Nat) → (Addr) → (Addr) → (Heap) → (Heap) → (Addr) → (Heap) → (Nat) → (Heap) → (Addr) → (Heap) → (Heap) → (Heap) → (Heap) → (Nat) → (Addr) → (Heap) → (Heap) → (Nat) → (Heap) → (Heap) → (Heap) → (Addr) → (Nat) → (Tok) → (Tok) → (Tok) → (Tok) → (Str → Option Value) → (Heap) → (Nat) → (List (Addr × Obj)) → (Addr) → (Obj) → Prop}, cut.1.2 = (∀ w p loose mean mg mb A₀ base h₀ L m cn cs ca ccd cl outer gd s Q E news tok ttok lead nm x' d' v_1 v_4 v_5 v_6 v_11 v_12 v_13 v_14 v_16 v_17 v_18 v_19 v_20 v_21 v_22 v_23 v_24 v_25 v_26 lc nn tb tn tnt t u h' tk own I oI, Rcut w p loose mean mg mb A₀ base h₀ L m cn cs ca ccd cl outer gd s Q E news tok ttok lead nm x' d' v_1 v_4 v_5 v_6 v_11 v_12 v_13 v_14 v_16 v_17 v_18 v_19 v_20 v_21 v_22 v_23 v_24 v_25 v_26 lc nn tb tn tnt t u h' tk own I oI) → _) fun {Rcut} _ => Rcut) rfl
noncomputable def Tcut : Type := (World × Program × (List Str) × (ExcName → Option Value) × (Str → Option Value) × (Str → Option Value) × Around × Heap) × (Heap × Addr × (Str → Option Value) × Str × Scope × Addr × Value × (List (Str × Addr))) × ((List Env) × (Option (List Code)) × Shared × (Value → Shared → Prop) × (Value → Shared → Prop) × (List (Addr × Obj)) × Str × Tok) × ((List Nat) × Nat × Addr × Addr × Heap × Heap × Addr × Heap) × (Nat × Heap × Addr × Heap × Heap × Heap × Heap × Nat) × (Addr × Heap × Heap × Nat × Heap × Heap × Heap × Addr) × (Nat × Tok × Tok × Tok × Tok × (Str → Option Value) × Heap × Nat) × ((List (Addr × Obj)) × Addr × Obj)
noncomputable def Qcut (x : Tcut) : Prop := Pcut x.1.1 x.1.2.1 x.1.2.2.1 x.1.2.2.2.1 x.1.2.2.2.2.1 x.1.2.2.2.2.2.1 x.1.2.2.2.2.2.2.1 x.1.2.2.2.2.2.2.2 x.2.1.1 x.2.1.2.1 x.2.1.2.2.1 x.2.1.2.2.2.1 x.2.1.2.2.2.2.1 x.2.1.2.2.2.2.2.1 x.2.1.2.2.2.2.2.2.1 x.2.1.2.2.2.2.2.2.2 x.2.2.1.1 x.2.2.1.2.1 x.2.2.1.2.2.1 x.2.2.1.2.2.2.1 x.2.2.1.2.2.2.2.1 x.2.2.1.2.2.2.2.2.1 x.2.2.1.2.2.2.2.2.2.1 x.2.2.1.2.2.2.2.2.2.2 x.2.2.2.1.1 x.2.2.2.1.2.1 x.2.2.2.1.2.2.1 x.2.2.2.1.2.2.2.1 x.2.2.2.1.2.2.2.2.1 x.2.2.2.1.2.2.2.2.2.1 x.2.2.2.1.2.2.2.2.2.2.1 x.2.2.2.1.2.2.2.2.2.2.2 x.2.2.2.2.1.1 x.2.2.2.2.1.2.1 x.2.2.2.2.1.2.2.1 x.2.2.2.2.1.2.2.2.1 x.2.2.2.2.1.2.2.2.2.1 x.2.2.2.2.1.2.2.2.2.2.1 x.2.2.2.2.1.2.2.2.2.2.2.1 x.2.2.2.2.1.2.2.2.2.2.2.2 x.2.2.2.2.2.1.1 x.2.2.2.2.2.1.2.1 x.2.2.2.2.2.1.2.2.1 x.2.2.2.2.2.1.2.2.2.1 x.2.2.2.2.2.1.2.2.2.2.1 x.2.2.2.2.2.1.2.2.2.2.2.1 x.2.2.2.2.2.1.2.2.2.2.2.2.1 x.2.2.2.2.2.1.2.2.2.2.2.2.2 x.2.2.2.2.2.2.1.1 x.2.2.2.2.2.2.1.2.1 x.2.2.2.2.2.2.1.2.2.1 x.2.2.2.2.2.2.1.2.2.2.1 x.2.2.2.2.2.2.1.2.2.2.2.1 x.2.2.2.2.2.2.1.2.2.2.2.2.1 x.2.2.2.2.2.2.1.2.2.2.2.2.2.1 x.2.2.2.2.2.2.1.2.2.2.2.2.2.2 x.2.2.2.2.2.2.2.1 x.2.2.2.2.2.2.2.2.1 x.2.2.2.2.2.2.2.2.2
theorem ex_cut : ∃ x : Tcut, Qcut x → ∀ y, Qcut y := by
  haveI := neW; haveI := neA; haveI := neS
  haveI : Nonempty Tcut := by unfold Tcut; set_option synthInstance.maxSize 2000 in infer_instance
  exact henk1 Qcut
noncomputable def Ccut : Tcut := Classical.choose ex_cut
@[irreducible] noncomputable def w : World := Ccut.1.1
@[irreducible] noncomputable def p : Program := Ccut.1.2.1
@[irreducible] noncomputable def loose : List Str := Ccut.1.2.2.1
@[irreducible] noncomputable def mean : ExcName → Option Value := Ccut.1.2.2.2.1
@[irreducible] noncomputable def mg : Str → Option Value := Ccut.1.2.2.2.2.1
@[irreducible] noncomputable def mb : Str → Option Value := Ccut.1.2.2.2.2.2.1
@[irreducible] noncomputable def A₀ : Around := Ccut.1.2.2.2.2.2.2.1
@[irreducible] noncomputable def base : Heap := Ccut.1.2.2.2.2.2.2.2
@[irreducible] noncomputable def h₀ : Heap := Ccut.2.1.1
@[irreducible] noncomputable def L : Addr := Ccut.2.1.2.1
@[irreducible] noncomputable def m : Str → Option Value := Ccut.2.1.2.2.1
@[irreducible] noncomputable def cn : Str := Ccut.2.1.2.2.2.1
@[irreducible] noncomputable def cs : Scope := Ccut.2.1.2.2.2.2.1
@[irreducible] noncomputable def ca : Addr := Ccut.2.1.2.2.2.2.2.1
@[irreducible] noncomputable def ccd : Value := Ccut.2.1.2.2.2.2.2.2.1
@[irreducible] noncomputable def cl : List (Str × Addr) := Ccut.2.1.2.2.2.2.2.2.2
@[irreducible] noncomputable def outer : List Env := Ccut.2.2.1.1
@[irreducible] noncomputable def gd : Option (List Code) := Ccut.2.2.1.2.1
@[irreducible] noncomputable def s : Shared := Ccut.2.2.1.2.2.1
@[irreducible] noncomputable def Q : Value → Shared → Prop := Ccut.2.2.1.2.2.2.1
@[irreducible] noncomputable def E : Value → Shared → Prop := Ccut.2.2.1.2.2.2.2.1
@[irreducible] noncomputable def news : List (Addr × Obj) := Ccut.2.2.1.2.2.2.2.2.1
@[irreducible] noncomputable def tok : Str := Ccut.2.2.1.2.2.2.2.2.2.1
@[irreducible] noncomputable def ttok : Tok := Ccut.2.2.1.2.2.2.2.2.2.2
@[irreducible] noncomputable def lead : List Nat := Ccut.2.2.2.1.1
@[irreducible] noncomputable def nm : Nat := Ccut.2.2.2.1.2.1
@[irreducible] noncomputable def x' : Addr := Ccut.2.2.2.1.2.2.1
@[irreducible] noncomputable def d' : Addr := Ccut.2.2.2.1.2.2.2.1
@[irreducible] noncomputable def v_1 : Heap := Ccut.2.2.2.1.2.2.2.2.1
@[irreducible] noncomputable def v_4 : Heap := Ccut.2.2.2.1.2.2.2.2.2.1
@[irreducible] noncomputable def v_5 : Addr := Ccut.2.2.2.1.2.2.2.2.2.2.1
@[irreducible] noncomputable def v_6 : Heap := Ccut.2.2.2.1.2.2.2.2.2.2.2
@[irreducible] noncomputable def v_11 : Nat := Ccut.2.2.2.2.1.1
@[irreducible] noncomputable def v_12 : Heap := Ccut.2.2.2.2.1.2.1
@[irreducible] noncomputable def v_13 : Addr := Ccut.2.2.2.2.1.2.2.1
@[irreducible] noncomputable def v_14 : Heap := Ccut.2.2.2.2.1.2.2.2.1
@[irreducible] noncomputable def v_16 : Heap := Ccut.2.2.2.2.1.2.2.2.2.1
@[irreducible] noncomputable def v_17 : Heap := Ccut.2.2.2.2.1.2.2.2.2.2.1
@[irreducible] noncomputable def v_18 : Heap := Ccut.2.2.2.2.1.2.2.2.2.2.2.1
@[irreducible] noncomputable def v_19 : Nat := Ccut.2.2.2.2.1.2.2.2.2.2.2.2
@[irreducible] noncomputable def v_20 : Addr := Ccut.2.2.2.2.2.1.1
@[irreducible] noncomputable def v_21 : Heap := Ccut.2.2.2.2.2.1.2.1
@[irreducible] noncomputable def v_22 : Heap := Ccut.2.2.2.2.2.1.2.2.1
@[irreducible] noncomputable def v_23 : Nat := Ccut.2.2.2.2.2.1.2.2.2.1
@[irreducible] noncomputable def v_24 : Heap := Ccut.2.2.2.2.2.1.2.2.2.2.1
@[irreducible] noncomputable def v_25 : Heap := Ccut.2.2.2.2.2.1.2.2.2.2.2.1
@[irreducible] noncomputable def v_26 : Heap := Ccut.2.2.2.2.2.1.2.2.2.2.2.2.1
@[irreducible] noncomputable def lc : Addr := Ccut.2.2.2.2.2.1.2.2.2.2.2.2.2
@[irreducible] noncomputable def nn : Nat := Ccut.2.2.2.2.2.2.1.1
@[irreducible] noncomputable def tb : Tok := Ccut.2.2.2.2.2.2.1.2.1
@[irreducible] noncomputable def tn : Tok := Ccut.2.2.2.2.2.2.1.2.2.1
@[irreducible] noncomputable def tnt : Tok := Ccut.2.2.2.2.2.2.1.2.2.2.1
@[irreducible] noncomputable def t : Tok := Ccut.2.2.2.2.2.2.1.2.2.2.2.1
@[irreducible] noncomputable def u : Str → Option Value := Ccut.2.2.2.2.2.2.1.2.2.2.2.2.1
@[irreducible] noncomputable def h' : Heap := Ccut.2.2.2.2.2.2.1.2.2.2.2.2.2.1
@[irreducible] noncomputable def tk : Nat := Ccut.2.2.2.2.2.2.1.2.2.2.2.2.2.2
@[irreducible] noncomputable def own : List (Addr × Obj) := Ccut.2.2.2.2.2.2.2.1
@[irreducible] noncomputable def I : Addr := Ccut.2.2.2.2.2.2.2.2.1
@[irreducible] noncomputable def oI : Obj := Ccut.2.2.2.2.2.2.2.2.2
end
set_option maxRecDepth 100000 in
set_option maxHeartbeats 1000000 in
theorem at_cut : Pcut w p loose mean mg mb A₀ base h₀ L m cn cs ca ccd cl outer gd s Q E news tok ttok lead nm x' d' v_1 v_4 v_5 v_6 v_11 v_12 v_13 v_14 v_16 v_17 v_18 v_19 v_20 v_21 v_22 v_23 v_24 v_25 v_26 lc nn tb tn tnt t u h' tk own I oI := by
  intro i cv ch B F N T hk hz1 hz2 hz3 hz4 ht hl hn1 hn2 h X i_2 i_3 l1 l2 i_7 i_8 i_9 i_10 i_15 hch g1 g2 g3 hi h1 h5 hI hmem hw N' hI1 hI2 hI3 hI4 q1 q2 F' hlt
  have hi' : i = lead.length := Nat.le_antisymm hi (Nat.not_lt.mp hlt)
  subst hi'
  have hcc : ch = nm := by
    rw [ht] at hch
    simp at hch
    exact hch.symm
  subst hcc
  rw [List.take_length] at *
  have hA : ((⟨#[nm]⟩ : Str) == Str.ofString " ") = false := by
    cases e : ((⟨#[nm]⟩ : Str) == Str.ofString " ") with
    | false => rfl
    | true => exact absurd (sign_eq e) hn1
  have hB : ((⟨#[nm]⟩ : Str) == Str.ofString "\t") = false := by
    cases e : ((⟨#[nm]⟩ : Str) == Str.ofString "\t") with
    | false => rfl
    | true => exact absurd (sign_eq' e) hn2
  rcases len_le2 (by first | exact Nat.le_trans (Nat.le_of_eq h1) hz1 | (rw [h1]; assumption) | omega : cv.length ≤ 2) with rfl | ⟨v1, rfl⟩ | ⟨v1, v2, rfl⟩
  · k_steps
    all_goals (first | (exact (Bool.false_ne_true (hA.symm.trans (by assumption))).elim) | (exact (Bool.false_ne_true (hB.symm.trans (by assumption))).elim) | skip)
    (rename Fr _ _ _ _ => fF); (rename News _ _ _ _ => fN)
    k_dflt (refine' h x' _ _ (wsLed x' ⟨d', _, _, _, _, _, _, _, _, _, _, _, _, _, _, _, _, _, _, _, _⟩ (scan lead).b (scan lead).n (scan lead).nt (decide ((scan lead).k ≤ 1))) fF ?n1 ?n2 ?n3)
    case n1 => (rw [← h1]; k_dflt (exact news4 fN (by k_memK) (by k_memK) (by k_memK) (by k_memK) (fun p hp => by (repeat (first | exact List.mem_append_left _ hp | refine List.mem_cons_of_mem _ ?_)))))
    case n2 => ((rename _ ∧ _ ∧ _ ∧ _ ∧ AllLt _ (news ++ own) => la); (rename _ ∧ _ ∧ _ ∧ AllLt _ (news ++ own) => lb); (have la4 := la.2.2.2.1); (have lb3 := lb.2.2.1); clear la lb; intro p hp; (have hp' := ltN (kst_ltOf l1 p hp)); (try dsimp only [wsLed]); refine sc ?_ (sc ?_ (sc ?_ (sc ?_ (List.forall_mem_nil _)))); all_goals (refine ltN ?_; (try dsimp only); first | exact hp' | exact Nat.lt_trans hp' la4 | exact Nat.lt_trans hp' lb3 | exact Nat.lt_trans hp' (by assumption) | omega))
    case n3 => exact ⟨_, h1, hz1, hz2, hz3, hz4, fun p hp => hp⟩
  · obtain ⟨z1, y1, rfl⟩ := h5 _ (.head _)
    k_steps
    all_goals (first | (exact (Bool.false_ne_true (hA.symm.trans (by assumption))).elim) | (exact (Bool.false_ne_true (hB.symm.trans (by assumption))).elim) | skip)
    (rename Fr _ _ _ _ => fF); (rename News _ _ _ _ => fN)
    k_dflt (refine' h x' _ _ (wsLed x' ⟨d', _, _, _, _, _, _, _, _, _, _, _, _, _, _, _, _, _, _, _, _⟩ (scan lead).b (scan lead).n (scan lead).nt (decide ((scan lead).k ≤ 1))) fF ?n1 ?n2 ?n3)
    case n1 => (rw [← h1]; k_dflt (exact news4 fN (by k_memK) (by k_memK) (by k_memK) (by k_memK) (fun p hp => by (repeat (first | exact List.mem_append_left _ hp | refine List.mem_cons_of_mem _ ?_)))))
    case n2 => ((rename _ ∧ _ ∧ _ ∧ _ ∧ AllLt _ (news ++ own) => la); (rename _ ∧ _ ∧ _ ∧ AllLt _ (news ++ own) => lb); (have la4 := la.2.2.2.1); (have lb3 := lb.2.2.1); clear la lb; intro p hp; (have hp' := ltN (kst_ltOf l1 p hp)); (try dsimp only [wsLed]); refine sc ?_ (sc ?_ (sc ?_ (sc ?_ (List.forall_mem_nil _)))); all_goals (refine ltN ?_; (try dsimp only); first | exact hp' | exact Nat.lt_trans hp' la4 | exact Nat.lt_trans hp' lb3 | exact Nat.lt_trans hp' (by assumption) | omega))
    case n3 => exact ⟨_, h1, hz1, hz2, hz3, hz4, fun p hp => hp⟩
  · obtain ⟨z1, y1, rfl⟩ := h5 _ (.head _)
    obtain ⟨z2, y2, rfl⟩ := h5 _ (.tail _ (.head _))
    k_steps
    all_goals (first | (exact (Bool.false_ne_true (hA.symm.trans (by assumption))).elim) | (exact (Bool.false_ne_true (hB.symm.trans (by assumption))).elim) | skip)
    (rename Fr _ _ _ _ => fF); (rename News _ _ _ _ => fN)
    k_dflt (refine' h x' _ _ (wsLed x' ⟨d', _, _, _, _, _, _, _, _, _, _, _, _, _, _, _, _, _, _, _, _⟩ (scan lead).b (scan lead).n (scan lead).nt (decide ((scan lead).k ≤ 1))) fF ?n1 ?n2 ?n3)
    case n1 => (rw [← h1]; k_dflt (exact news4 fN (by k_memK) (by k_memK) (by k_memK) (by k_memK) (fun p hp => by (repeat (first | exact List.mem_append_left _ hp | refine List.mem_cons_of_mem _ ?_)))))
    case n2 => ((rename _ ∧ _ ∧ _ ∧ _ ∧ AllLt _ (news ++ own) => la); (rename _ ∧ _ ∧ _ ∧ AllLt _ (news ++ own) => lb); (have la4 := la.2.2.2.1); (have lb3 := lb.2.2.1); clear la lb; intro p hp; (have hp' := ltN (kst_ltOf l1 p hp)); (try dsimp only [wsLed]); refine sc ?_ (sc ?_ (sc ?_ (sc ?_ (List.forall_mem_nil _)))); all_goals (refine ltN ?_; (try dsimp only); first | exact hp' | exact Nat.lt_trans hp' la4 | exact Nat.lt_trans hp' lb3 | exact Nat.lt_trans hp' (by assumption) | omega))
    case n3 => exact ⟨_, h1, hz1, hz2, hz3, hz4, fun p hp => hp⟩
theorem all_cut : ∀ w p loose mean mg mb A₀ base h₀ L m cn cs ca ccd cl outer gd s Q E news tok ttok lead nm x' d' v_1 v_4 v_5 v_6 v_11 v_12 v_13 v_14 v_16 v_17 v_18 v_19 v_20 v_21 v_22 v_23 v_24 v_25 v_26 lc nn tb tn tnt t u h' tk own I oI, Pcut w p loose mean mg mb A₀ base h₀ L m cn cs ca ccd cl outer gd s Q E news tok ttok lead nm x' d' v_1 v_4 v_5 v_6 v_11 v_12 v_13 v_14 v_16 v_17 v_18 v_19 v_20 v_21 v_22 v_23 v_24 v_25 v_26 lc nn tb tn tnt t u h' tk own I oI := by
  have h : Pcut w p loose mean mg mb A₀ base h₀ L m cn cs ca ccd cl outer gd s Q E news tok ttok lead nm x' d' v_1 v_4 v_5 v_6 v_11 v_12 v_13 v_14 v_16 v_17 v_18 v_19 v_20 v_21 v_22 v_23 v_24 v_25 v_26 lc nn tb tn tnt t u h' tk own I oI := at_cut
  delta w p loose mean mg mb A₀ base h₀ L m cn cs ca ccd cl outer gd s Q E news tok ttok lead nm x' d' v_1 v_4 v_5 v_6 v_11 v_12 v_13 v_14 v_16 v_17 v_18 v_19 v_20 v_21 v_22 v_23 v_24 v_25 v_26 lc nn tb tn tnt t u h' tk own I oI at h
  exact fun w p loose mean mg mb A₀ base h₀ L m cn cs ca ccd cl outer gd s Q E news tok ttok lead nm x' d' v_1 v_4 v_5 v_6 v_11 v_12 v_13 v_14 v_16 v_17 v_18 v_19 v_20 v_21 v_22 v_23 v_24 v_25 v_26 lc nn tb tn tnt t u h' tk own I oI => Classical.choose_spec ex_cut h ((w, p, loose, mean, mg, mb, A₀, base), (h₀, L, m, cn, cs, ca, ccd, cl), (outer, gd, s, Q, E, news, tok, ttok), (lead, nm, x', d', v_1, v_4, v_5, v_6), (v_11, v_12, v_13, v_14, v_16, v_17, v_18, v_19), (v_20, v_21, v_22, v_23, v_24, v_25, v_26, lc), (nn, tb, tn, tnt, t, u, h', tk), (own, I, oI))
end r1
end K_init_spec
theorem init_spec : type_of% (@Subtype.property _ _ K_init_spec.cut (no_implicit_lambda% K_init_spec.r0.all_cut) (no_implicit_lambda% K_init_spec.r1.all_cut)) := no_implicit_lambda% (@Subtype.property _ _ K_init_spec.cut (no_implicit_lambda% K_init_spec.r0.all_cut) (no_implicit_lambda% K_init_spec.r1.all_cut))
end Mine
end
section
theorem Mine.off_W5 : True := by (w_top off; trivial)
open PySem PySem.W PyProof.Rows PySem.Spec
namespace Mine
inductive ChAre : List Value → List Nat → Prop
  | nil : ChAre [] []
  | cons {vs : List Value} {l : List Nat} (c : Nat) (t : Tok) : ChAre vs l → ChAre (.str ⟨#[c]⟩ t :: vs) (c :: l)
theorem ChAre.of_get : ∀ {vs : List Value} {l : List Nat}, vs.length = l.length → (∀ (j : Nat) v, vs[j]? = some v → ∃ c u, l[j]? = some c ∧ v = Value.str ⟨#[c]⟩ u) → ChAre vs l := by
  intro vs
  induction vs with
  | nil => intro l hl _; obtain rfl := List.eq_nil_of_length_eq_zero hl.symm; exact .nil
  | cons v vs ih =>
    intro l hl h
    cases l with
    | nil => exact (Nat.succ_ne_zero _ hl).elim
    | cons c l =>
      obtain ⟨c', u, e, rfl⟩ := h 0 v rfl
      obtain rfl := Option.some.inj e
      exact .cons _ _ (ih (Nat.succ.inj hl) fun j x hx => h (j + 1) x hx)
theorem ChAre.length {vs : List Value} {l : List Nat} (h : ChAre vs l) : vs.length = l.length := by
  induction h with
  | nil => rfl
  | cons _ _ _ ih => simp [ih]
theorem list_strK {prog : Program} {w : World} {A : Around} {E : Value → Shared → Prop} {s : Shared} {h₀ : Heap} {L : Addr} {m : Str → Option Value} {Q : Value → Shared → Prop} {x : Str} {t : Tok} {news : List (Addr × Obj)} (hh : A.handled = none) (F : Fr h₀ L s.heap m) (N : News h₀ L s.heap news) (hsz : x.length ≤ 16777216)
    (hQ : ∀ d h' tk (ys : List Value) (n : Nat), Fr h₀ L h' m → News h₀ L h' ((d, W.listOf ys.toArray n) :: news) → (∀ p ∈ news, p.1 < d) → ChAre ys x.cps.toList → Q (.ref d) { s with heap := h', toks := tk }) :
    wpAny (model prog w) A (call (.type "list") [.str x t]) Q E s := by
  refine call_list_str hh x t (hn := by rw [sizeLine_eq]; exact hsz) fun h' tk acc' c' hk hS' hacc => ?_
  refine hQ s.heap.objs.size h' tk acc'.toList c' (F.keeps hk) (fun p hp => ?_) (fun p hp => Heap.lt_size (N p hp).1) (ChAre.of_get (by simp [hacc.1]) fun j v hv => ?_)
  · rcases List.mem_cons.mp hp with rfl | hp
    · refine ⟨by simpa using hS', Nat.ne_of_gt F.ns.lt, ?_⟩
      cases e : h₀.get? s.heap.objs.size with
      | none => rfl
      | some o => exact absurd (Heap.lt_size (F.keep _ _ e)) (Nat.lt_irrefl _)
    · exact ⟨hk _ _ (N p hp).1, (N p hp).2⟩
  · obtain ⟨c, u, hc, rfl⟩ := hacc.2 j v (by simpa using hv)
    exact ⟨c, u, by simpa using hc, rfl⟩
def held_W5_1 : List String := "call type:list;call builtin:list.pop".splitOn ";"
local macro_rules | `(tactic| walk_at $s:str) => if held_W5_1.contains s.getString then `(tactic| (k_here; refine hold ?_)) else Lean.Macro.throwUnsupported
theorem pop0_idx (v : Value) (q : List Value) : seqIndex? 0 (v :: q).toArray.size = some 0 := by
  simp [seqIndex?]
  try omega
theorem pop0_fit {v : Value} {q : List Value} (h : (v :: q).length ≤ 10000) : (v :: q).toArray.toList.length ≤ sizeLine := by
  rw [sizeLine_eq]; simp at h ⊢; omega
noncomputable def NextSpec (w : World) (fix : List (Addr × Obj)) (f lf : Addr) : Prop :=
  ∀ (p : Program) (loose : List Str) (mean : ExcName → Option Value) (mg mb : Str → Option Value) (A₀ : Around) (base h₀ : Heap) (L : Addr) (m : Str → Option Value) (cn : Str) (cs : Scope) (ca : Addr) (ccd : Value) (cl : List (Str × Addr)) (outer : List Env) (gd : Option (List Code)) (s : Shared) (R : Result → Shared → Prop)
    (rest : List (Addr × Obj)) (vs : List Value) (n : Nat) (k : Int) (t : Tok),
    Below A₀ base outer h₀ → Fr h₀ L s.heap m → (Mine.hd.heap_39 w.params).In h₀ → News h₀ L s.heap ((lf, W.listOf vs.toArray n) :: (fix ++ rest)) → Top p loose mean mg mb h₀ → CodeHd base 142 138 → cs.kind = .function → (∀ p ∈ rest, p.1 ≠ lf) → vs.length ≤ 10000 →
    (∀ h' tk' r vs' n', Fr h₀ L h' m → News h₀ L h' ((lf, W.listOf vs'.toArray n') :: (fix ++ rest)) → (match vs with | [] => (∃ t, r = .str (Str.ofString "") t) ∧ vs' = [] | v :: q => r = v ∧ vs' = q) → R (.ok (.ret r)) { s with heap := h', toks := tk' }) →
    codeAny (model Challenge.rw_pg0196_01.row.prog w) (At 400 gd (envX cn cs L ca ccd cl :: outer)) (.call (.ref f) ⟨[.int k t], []⟩) R s
structure LexH where
  lx : Addr
  dl : Addr
  st : Addr
  ds : Addr
  pb : Addr
  pb2 : Addr
  f : Addr
  h1 : Int
  h2 : Int
  h3 : Int
  h4 : Int
  g1 : Int
  g2 : Int
  g3 : Int
  g4 : Int
  g5 : Int
  t1 : Tok
  t2 : Tok
  t3 : Tok
  t4 : Tok
  t5 : Tok
  u1 : Tok
  u2 : Tok
  u3 : Tok
  u4 : Tok
  u5 : Tok
  u6 : Tok
  u7 : Tok
noncomputable abbrev lexLed (z : LexH) (ln : Int) (tln : Tok) (pbs : List Value) (npb : Nat) : List (Addr × Obj) :=
  [(z.dl, dictOf [entry z.h1 "lineno" z.t1 (.int ln tln), entry z.h2 "instream" z.t2 (.ref z.st), entry z.h3 "whitespace" z.t3 (.str (Str.ofString "\n\t\r ") z.t5), entry z.h4 "pushback" z.t4 (.ref z.pb)] 4),
   (z.pb, W.listOf pbs.toArray npb), (z.lx, instObj 59 z.dl), (z.st, instObj 59 z.ds),
   (z.ds, dictOf [entry z.g1 "lineno" z.u1 (.int 1 z.u6), entry z.g2 "instream" z.u2 .none, entry z.g3 "whitespace" z.u3 (.str (Str.ofString "\n\t\r ") z.u7), entry z.g4 "pushback" z.u4 (.ref z.pb2), entry z.g5 "read" z.u5 (.ref z.f)] 5)]
structure LexOff (z : LexH) (lf : Addr) (rest : List (Addr × Obj)) : Prop where
  a1 : @Ne Nat lf z.lx
  a2 : @Ne Nat lf z.dl
  a3 : @Ne Nat lf z.st
  a4 : @Ne Nat lf z.ds
  a5 : @Ne Nat lf z.pb
  b1 : @Ne Nat z.dl z.lx
  b3 : @Ne Nat z.dl z.st
  b4 : @Ne Nat z.dl z.ds
  b5 : @Ne Nat z.dl z.pb
  c1 : @Ne Nat z.pb z.lx
  c3 : @Ne Nat z.pb z.st
  c4 : @Ne Nat z.pb z.ds
  r1 : ∀ p ∈ rest, p.1 ≠ lf
  r2 : ∀ p ∈ rest, p.1 ≠ z.dl
  r3 : ∀ p ∈ rest, p.1 ≠ z.pb
noncomputable abbrev fix3 (f : Addr) (name qual : Str) (params : Arguments) (body : List Stmt) (scope : Scope) (clos : List (Str × Addr)) (doc pm : Value) (c' : Addr) (ctv : Value) (oc : Obj) (cell : Addr) (ol : Obj) : List (Addr × Obj) :=
  [(f, fnMade name qual params body scope clos doc pm c' ctv), (c', oc), (cell, ol)]
theorem nc {h₀ h : Heap} {L : Addr} {led rest : List (Addr × Obj)} {a : Addr × Obj} (N : News h₀ L h led) (ha : a ∈ led) (r : News h₀ L h rest) : News h₀ L h (a :: rest) := fun p hp => by
  rcases List.mem_cons.mp hp with rfl | hp
  · exact N _ ha
  · exact r p hp
theorem mem3 {fix news : List (Addr × Obj)} {P : Addr × Obj → Prop} (h1 : ∀ p ∈ fix, P p) (h2 : ∀ p ∈ news, P p) : ∀ p ∈ fix ++ news, P p := fun p hp => (List.mem_append.mp hp).elim (h1 p) (h2 p)
namespace K_lexer_spec
set_option maxRecDepth 100000 in
set_option maxHeartbeats 1000000 in
noncomputable def cut : (@Subtype Prop fun P => P → ∀ {w : World} {p : Program} {loose : List Str} {mean : ExcName → Option Value} {mg mb : Str → Option Value} {A₀ : Around} {base h₀ : Heap} {L : Addr} {m : Str → Option Value} {cn : Str} {cs : Scope} {ca : Addr} {ccd : Value} {cl : List (Str × Addr)} {outer : List Env} {gd : Option (List Code)} {s : Shared} {R : Result → Shared → Prop} {news : List (Addr × Obj)} {text : Str} {tt : Tok} (B : Below A₀ base outer h₀) (F : Fr h₀ L s.heap m) (X : (Mine.hd.heap_39 w.params).In h₀) (N : News h₀ L s.heap ((138, tabObj #[]) :: news)) (T : Top p loose mean mg mb h₀) (CH : CodeHd base 142 138) (h138 : ∀ p ∈ news, p.1 ≠ 138) (hk : cs.kind = .function) (hsz : text.length ≤ 16777216) (h : ∀ (z : LexH) lf fix ys nl npb tln foc fod ffd fsl tb h' tk', Fr h₀ L h' m → News h₀ L h' ((lf, W.listOf ys.toArray nl) :: (lexLed z 1 tln [] npb ++ (fix ++ ((138, tabObj tb) :: news)))) → ChAre ys text.cps.toList → NextSpec w fix z.f lf → (z.f, (⟨foc, fod, .func ffd, fsl⟩ : Obj)) ∈ fix → LexOff z lf (fix ++ ((138, tabObj tb) :: news)) → (∀ p ∈ news, ∀ a ∈ [lf, z.lx, z.dl, z.st, z.ds, z.pb], @LT.lt Nat _ p.1 a) → (∀ p ∈ news, ∀ q ∈ fix, @LT.lt Nat _ p.1 q.1) → R (.ok (.ret (.ref z.lx))) { s with heap := h', toks := tk' }), codeAny (model Challenge.rw_pg0196_01.row.prog w) (At 100 gd (envX cn cs L ca ccd cl :: outer)) (.call (.ref 143) ⟨[.str text tt], []⟩) R s) := by
  refine' mkCut fun hole => ?_
  rotate_left
  focus
  intro w p loose mean mg mb A₀ base h₀ L m cn cs ca ccd cl outer gd s R news text tt B F X N T CH h138 hk hsz h
  revert X
  k_fill
  intro X
  k_dflt (refine' code_defC ?k1 ?k2 ?k3 ?k4 ?k5 ?kA ?kF ?kK ?k6 ?k7 ?k8 ?k9 ?kB ?kD ?_ ?c2 ?c3 ?c4; (case kA => exact rfl); (case kF => exact rfl); (case kK => exact hk); (case k1 => k_asm); (case k2 => k_asm); (case k3 => k_asm); (case k4 => k_asm); (case k5 => k_asm); (case k6 => k_is); (case k7 => k_is); (case k8 => ktr_room); (case k9 => exact BindsTo.of_eq rfl); (case kB => exact rfl); (case kD => decide +kernel); (case c2 => exact rfl); (case c3 => exact rfl); (case c4 => exact rfl); k_whole; intro g' L' h' tk' cells' FG' F' N' Y' B' X' T' l1; (try k_lt l1); k_cells Y'; (try simp only [List.cons_append, List.nil_append] at N'); (try dsimp only); (try k_lift B'); (try k_fold))
  have q0 : ∀ p ∈ news, p.1 ≠ L' + 1 := fun p hp e => by
    have q := ltN (kst_ltOf l1.2 p hp)
    rw [e] at q
    exact absurd q (by omega)
  rename_i v_1 i_2
  revert B F N T CH h138 hk hsz h X FG' F' B' X' T' l1 i_2 N' q0
  revert w p loose mean mg mb A₀ base h₀ L m cn cs ca ccd cl outer gd s R news text tt g' L' h' tk' v_1
  exact no_implicit_lambda% hole.get
noncomputable section
noncomputable def Pcut : (World) → (Program) → (List Str) → (ExcName → Option Value) → (Str → Option Value) → (Str → Option Value) → (Around) → (Heap) → (Heap) → (Addr) → (Str → Option Value) → (Str) → (Scope) → (Addr) → (Value) → (List (Str × Addr)) → (List Env) → (Option (List Code)) → (Shared) → (Result → Shared → Prop) → (List (Addr × Obj)) → (Str) → (Tok) → (Heap) → (Addr) → (Heap) → (Nat) → (Obj) → Prop := (@id (∀ {Rcut : (World) → (Program) → (List Str) → (ExcName → Option Value) → (Str → Option Value) → (Str → Option Value) → (Around) → (Heap) → (Heap) → (Addr) → (Str → Option Value) → (Str) → (Scope) → (Addr) → (Value) → (List (Str × Addr)) → (List Env) → (Option (List Code)) → (Shared) → (Result → Shared → Prop) → (List (Addr × Obj)) → (Str) → (Tok) → (Heap) → (Addr) → (Heap) → (Nat) → (Obj) → Prop}, cut.1 = (∀ w p loose mean mg mb A₀ base h₀ L m cn cs ca ccd cl outer gd s R news text tt g' L' h' tk' v_1, Rcut w p loose mean mg mb A₀ base h₀ L m cn cs ca ccd cl outer gd s R news text tt g' L' h' tk' v_1) → _) fun {Rcut} _ => Rcut) rfl
noncomputable def Tcut : Type := (World × Program × (List Str) × (ExcName → Option Value) × (Str → Option Value) × (Str → Option Value)) × (Around × Heap × Heap × Addr × (Str → Option Value) × Str) × (Scope × Addr × Value × (List (Str × Addr)) × (List Env) × (Option (List Code))) × (Shared × (Result → Shared → Prop) × (List (Addr × Obj)) × Str × Tok × Heap) × (Addr × Heap × Nat × Obj)
noncomputable def Qcut (x : Tcut) : Prop := Pcut x.1.1 x.1.2.1 x.1.2.2.1 x.1.2.2.2.1 x.1.2.2.2.2.1 x.1.2.2.2.2.2 x.2.1.1 x.2.1.2.1 x.2.1.2.2.1 x.2.1.2.2.2.1 x.2.1.2.2.2.2.1 x.2.1.2.2.2.2.2 x.2.2.1.1 x.2.2.1.2.1 x.2.2.1.2.2.1 x.2.2.1.2.2.2.1 x.2.2.1.2.2.2.2.1 x.2.2.1.2.2.2.2.2 x.2.2.2.1.1 x.2.2.2.1.2.1 x.2.2.2.1.2.2.1 x.2.2.2.1.2.2.2.1 x.2.2.2.1.2.2.2.2.1 x.2.2.2.1.2.2.2.2.2 x.2.2.2.2.1 x.2.2.2.2.2.1 x.2.2.2.2.2.2.1 x.2.2.2.2.2.2.2
theorem ex_cut : ∃ x : Tcut, Qcut x → ∀ y, Qcut y := by
  haveI := neW; haveI := neA; haveI := neS
  haveI : Nonempty Tcut := by unfold Tcut; set_option synthInstance.maxSize 2000 in infer_instance
  exact henk1 Qcut
noncomputable def Ccut : Tcut := Classical.choose ex_cut
@[irreducible] noncomputable def w : World := Ccut.1.1
@[irreducible] noncomputable def p : Program := Ccut.1.2.1
@[irreducible] noncomputable def loose : List Str := Ccut.1.2.2.1
@[irreducible] noncomputable def mean : ExcName → Option Value := Ccut.1.2.2.2.1
@[irreducible] noncomputable def mg : Str → Option Value := Ccut.1.2.2.2.2.1
@[irreducible] noncomputable def mb : Str → Option Value := Ccut.1.2.2.2.2.2
@[irreducible] noncomputable def A₀ : Around := Ccut.2.1.1
@[irreducible] noncomputable def base : Heap := Ccut.2.1.2.1
@[irreducible] noncomputable def h₀ : Heap := Ccut.2.1.2.2.1
@[irreducible] noncomputable def L : Addr := Ccut.2.1.2.2.2.1
@[irreducible] noncomputable def m : Str → Option Value := Ccut.2.1.2.2.2.2.1
@[irreducible] noncomputable def cn : Str := Ccut.2.1.2.2.2.2.2
@[irreducible] noncomputable def cs : Scope := Ccut.2.2.1.1
@[irreducible] noncomputable def ca : Addr := Ccut.2.2.1.2.1
@[irreducible] noncomputable def ccd : Value := Ccut.2.2.1.2.2.1
@[irreducible] noncomputable def cl : List (Str × Addr) := Ccut.2.2.1.2.2.2.1
@[irreducible] noncomputable def outer : List Env := Ccut.2.2.1.2.2.2.2.1
@[irreducible] noncomputable def gd : Option (List Code) := Ccut.2.2.1.2.2.2.2.2
@[irreducible] noncomputable def s : Shared := Ccut.2.2.2.1.1
@[irreducible] noncomputable def R : Result → Shared → Prop := Ccut.2.2.2.1.2.1
@[irreducible] noncomputable def news : List (Addr × Obj) := Ccut.2.2.2.1.2.2.1
@[irreducible] noncomputable def text : Str := Ccut.2.2.2.1.2.2.2.1
@[irreducible] noncomputable def tt : Tok := Ccut.2.2.2.1.2.2.2.2.1
@[irreducible] noncomputable def g' : Heap := Ccut.2.2.2.1.2.2.2.2.2
@[irreducible] noncomputable def L' : Addr := Ccut.2.2.2.2.1
@[irreducible] noncomputable def h' : Heap := Ccut.2.2.2.2.2.1
@[irreducible] noncomputable def tk' : Nat := Ccut.2.2.2.2.2.2.1
@[irreducible] noncomputable def v_1 : Obj := Ccut.2.2.2.2.2.2.2
end
set_option maxRecDepth 100000 in
set_option maxHeartbeats 1000000 in
theorem at_cut : Pcut w p loose mean mg mb A₀ base h₀ L m cn cs ca ccd cl outer gd s R news text tt g' L' h' tk' v_1 := by
  intro B F N T CH h138 hk hsz h X FG' F' B' X' T' l1 i_2 N' q0
  k_steps; repeat' (first | (refine unhold ?_; (first | ((with_reducible show wpAny _ _ (call (Value.type "list") [Value.str _ _]) _ _ _); k_here; k_dflt (refine' list_strK (by rfl) ?k1zq ?k2zq ?k3zq ?_; (case k1zq => k_asm); (case k2zq => k_asm); (case k3zq => assumption); k_whole); intro l' h' tk' ys' n' F' N' l1 hc'; (try k_lt l1); (try k_sweep); (try (revert l' h' tk' ys' n' F' N' l1 hc'; intros))) | (k_dflt ((with_reducible show wpAny _ _ (call (Value.builtin _) [Value.ref _, Value.int _ _]) _ _ _); refine' kl_popAt ?Fzq ?Nzq ?fzq ?kzq ?ezq ?Uzq ?zzq ?_; (case Fzq => k_asm); (case Nzq => k_asm); (case Uzq => k_upd); (case fzq => rfl); (case kzq => exact pop0_idx _ _); (case ezq => rfl); (case zzq => exact pop0_fit (by assumption))); intro h' F' N'; (try dsimp only [List.nil_append, List.cons_append] at N'); (try (revert h' F' N'; intros)))); (try k_steps)))
  (rename Fr h₀ _ _ _ => fF); (rename News h₀ _ _ _ => fN)
  k_dflt (refine' h ⟨_, _, _, _, _, _, _, _, _, _, _, _, _, _, _, _, _, _, _, _, _, _, _, _, _, _, _, _⟩ _ (fix3 _ _ _ _ _ _ _ _ _ _ _ _ (L' + 1) _) _ _ _ _ _ _ _ _ _ _ _ fF ?N ?ch ?NX ?fn ?off ?fr1 ?fr2)
  case ch => assumption
  case N => k_dflt (exact (nc fN (by k_memK) (nc fN (by k_memK) (nc fN (by k_memK) (nc fN (by k_memK) (nc fN (by k_memK) (nc fN (by k_memK) (nc fN (by k_memK) (nc fN (by k_memK) (nc fN (by k_memK) (nc fN (by k_memK) (fun p hp => fN p (by (repeat (first | exact hp | refine List.mem_cons_of_mem _ ?_)))))))))))))))
  case fn => exact .head _
  case off => k_dflt (refine ⟨by dsimp only; omega, by dsimp only; omega, by dsimp only; omega, by dsimp only; omega, by dsimp only; omega, by dsimp only; omega, by dsimp only; omega, by dsimp only; omega, by dsimp only; omega, by dsimp only; omega, by dsimp only; omega, by dsimp only; omega, ?_, ?_, ?_⟩ <;> (dsimp only [fix3, List.cons_append, List.nil_append]; k_all))
  case fr1 =>
    intro p hp a ha
    dsimp only at ha
    simp only [List.mem_cons, List.not_mem_nil, or_false] at ha
    rcases ha with rfl | rfl | rfl | rfl | rfl | rfl <;> (first | exact kst_ltOf (by assumption) p hp | exact kst_ltOf (And.right (by assumption)) p hp | exact kst_ltOf (And.right (And.right (by assumption))) p hp | exact kst_ltOf (And.right (And.right (And.right (by assumption)))) p hp | exact kst_ltOf (And.right (And.right (And.right (And.right (by assumption))))) p hp | exact kst_ltOf (And.right (And.right (And.right (And.right (And.right (by assumption)))))) p hp | exact kst_ltOf (And.right (And.right (And.right (And.right (And.right (And.right (by assumption))))))) p hp | exact kst_ltOf (And.right (And.right (And.right (And.right (And.right (And.right (And.right (by assumption)))))))) p hp | exact kst_ltOf (And.right (And.right (And.right (And.right (And.right (And.right (And.right (And.right (by assumption))))))))) p hp | exact kst_ltOf (And.right (And.right (And.right (And.right (And.right (And.right (And.right (And.right (And.right (by assumption)))))))))) p hp | exact kst_ltOf (And.right (And.right (And.right (And.right (And.right (And.right (And.right (And.right (And.right (And.right (by assumption))))))))))) p hp | exact kst_ltOf (And.right (And.right (And.right (And.right (And.right (And.right (And.right (And.right (And.right (And.right (And.right (by assumption)))))))))))) p hp | exact kst_ltOf (And.right (And.right (And.right (And.right (And.right (And.right (And.right (And.right (And.right (And.right (And.right (And.right (by assumption))))))))))))) p hp | exact kst_ltOf (And.right (And.right (And.right (And.right (And.right (And.right (And.right (And.right (And.right (And.right (And.right (And.right (And.right (by assumption)))))))))))))) p hp | exact kst_ltOf (And.right (And.right (And.right (And.right (And.right (And.right (And.right (And.right (And.right (And.right (And.right (And.right (And.right (And.right (by assumption))))))))))))))) p hp | exact kst_ltOf (And.right (And.right (And.right (And.right (And.right (And.right (And.right (And.right (And.right (And.right (And.right (And.right (And.right (And.right (And.right (by assumption)))))))))))))))) p hp | exact kst_ltOf (And.right (And.right (And.right (And.right (And.right (And.right (And.right (And.right (And.right (And.right (And.right (And.right (And.right (And.right (And.right (And.right (by assumption))))))))))))))))) p hp | exact kst_ltOf (And.right (And.right (And.right (And.right (And.right (And.right (And.right (And.right (And.right (And.right (And.right (And.right (And.right (And.right (And.right (And.right (And.right (by assumption)))))))))))))))))) p hp | exact kst_ltOf (And.right (And.right (And.right (And.right (And.right (And.right (And.right (And.right (And.right (And.right (And.right (And.right (And.right (And.right (And.right (And.right (And.right (And.right (by assumption))))))))))))))))))) p hp | (refine Nat.lt_trans ?_ (by assumption); first | exact kst_ltOf (by assumption) p hp | exact kst_ltOf (And.right (by assumption)) p hp | exact kst_ltOf (And.right (And.right (by assumption))) p hp | exact kst_ltOf (And.right (And.right (And.right (by assumption)))) p hp | exact kst_ltOf (And.right (And.right (And.right (And.right (by assumption))))) p hp | exact kst_ltOf (And.right (And.right (And.right (And.right (And.right (by assumption)))))) p hp | exact kst_ltOf (And.right (And.right (And.right (And.right (And.right (And.right (by assumption))))))) p hp | exact kst_ltOf (And.right (And.right (And.right (And.right (And.right (And.right (And.right (by assumption)))))))) p hp | exact kst_ltOf (And.right (And.right (And.right (And.right (And.right (And.right (And.right (And.right (by assumption))))))))) p hp | exact kst_ltOf (And.right (And.right (And.right (And.right (And.right (And.right (And.right (And.right (And.right (by assumption)))))))))) p hp | exact kst_ltOf (And.right (And.right (And.right (And.right (And.right (And.right (And.right (And.right (And.right (And.right (by assumption))))))))))) p hp | exact kst_ltOf (And.right (And.right (And.right (And.right (And.right (And.right (And.right (And.right (And.right (And.right (And.right (by assumption)))))))))))) p hp | exact kst_ltOf (And.right (And.right (And.right (And.right (And.right (And.right (And.right (And.right (And.right (And.right (And.right (And.right (by assumption))))))))))))) p hp | exact kst_ltOf (And.right (And.right (And.right (And.right (And.right (And.right (And.right (And.right (And.right (And.right (And.right (And.right (And.right (by assumption)))))))))))))) p hp | exact kst_ltOf (And.right (And.right (And.right (And.right (And.right (And.right (And.right (And.right (And.right (And.right (And.right (And.right (And.right (And.right (by assumption))))))))))))))) p hp | exact kst_ltOf (And.right (And.right (And.right (And.right (And.right (And.right (And.right (And.right (And.right (And.right (And.right (And.right (And.right (And.right (And.right (by assumption)))))))))))))))) p hp | exact kst_ltOf (And.right (And.right (And.right (And.right (And.right (And.right (And.right (And.right (And.right (And.right (And.right (And.right (And.right (And.right (And.right (And.right (by assumption))))))))))))))))) p hp | exact kst_ltOf (And.right (And.right (And.right (And.right (And.right (And.right (And.right (And.right (And.right (And.right (And.right (And.right (And.right (And.right (And.right (And.right (And.right (by assumption)))))))))))))))))) p hp | exact kst_ltOf (And.right (And.right (And.right (And.right (And.right (And.right (And.right (And.right (And.right (And.right (And.right (And.right (And.right (And.right (And.right (And.right (And.right (And.right (by assumption))))))))))))))))))) p hp))
  case fr2 =>
    intro p hp q hq
    dsimp only [fix3] at hq
    simp only [List.mem_cons, List.not_mem_nil, or_false] at hq
    have hl0 := ltN (kst_ltOf l1.2 p hp)
    rcases hq with rfl | rfl | rfl <;> dsimp only <;> (first | omega | exact kst_ltOf (by assumption) p hp | exact kst_ltOf (And.right (by assumption)) p hp | exact kst_ltOf (And.right (And.right (by assumption))) p hp | exact kst_ltOf (And.right (And.right (And.right (by assumption)))) p hp | exact kst_ltOf (And.right (And.right (And.right (And.right (by assumption))))) p hp | exact kst_ltOf (And.right (And.right (And.right (And.right (And.right (by assumption)))))) p hp | exact kst_ltOf (And.right (And.right (And.right (And.right (And.right (And.right (by assumption))))))) p hp | exact kst_ltOf (And.right (And.right (And.right (And.right (And.right (And.right (And.right (by assumption)))))))) p hp | exact kst_ltOf (And.right (And.right (And.right (And.right (And.right (And.right (And.right (And.right (by assumption))))))))) p hp | exact kst_ltOf (And.right (And.right (And.right (And.right (And.right (And.right (And.right (And.right (And.right (by assumption)))))))))) p hp | exact kst_ltOf (And.right (And.right (And.right (And.right (And.right (And.right (And.right (And.right (And.right (And.right (by assumption))))))))))) p hp | exact kst_ltOf (And.right (And.right (And.right (And.right (And.right (And.right (And.right (And.right (And.right (And.right (And.right (by assumption)))))))))))) p hp | exact kst_ltOf (And.right (And.right (And.right (And.right (And.right (And.right (And.right (And.right (And.right (And.right (And.right (And.right (by assumption))))))))))))) p hp | exact kst_ltOf (And.right (And.right (And.right (And.right (And.right (And.right (And.right (And.right (And.right (And.right (And.right (And.right (And.right (by assumption)))))))))))))) p hp | exact kst_ltOf (And.right (And.right (And.right (And.right (And.right (And.right (And.right (And.right (And.right (And.right (And.right (And.right (And.right (And.right (by assumption))))))))))))))) p hp | exact kst_ltOf (And.right (And.right (And.right (And.right (And.right (And.right (And.right (And.right (And.right (And.right (And.right (And.right (And.right (And.right (And.right (by assumption)))))))))))))))) p hp | exact kst_ltOf (And.right (And.right (And.right (And.right (And.right (And.right (And.right (And.right (And.right (And.right (And.right (And.right (And.right (And.right (And.right (And.right (by assumption))))))))))))))))) p hp | exact kst_ltOf (And.right (And.right (And.right (And.right (And.right (And.right (And.right (And.right (And.right (And.right (And.right (And.right (And.right (And.right (And.right (And.right (And.right (by assumption)))))))))))))))))) p hp | exact kst_ltOf (And.right (And.right (And.right (And.right (And.right (And.right (And.right (And.right (And.right (And.right (And.right (And.right (And.right (And.right (And.right (And.right (And.right (And.right (by assumption))))))))))))))))))) p hp)
  case NX =>
    clear F N T B X
    intro p loose mean mg mb A₀ base h₀ L m cn cs ca ccd cl outer gd s R rest vs n k t B F X N T CH hk hne hlen h
    match vs, hlen, h with
    | [], hlen, h =>
      dsimp only at h
      dsimp only [fix3, List.cons_append, List.nil_append] at N
      k_dflt (refine' code_nest ?k1 ?k2 ?k3 ?k4 ?k5 ?kA ?kF ?kK ?k6 ?k7 ?k8 ?k9 ?kB ?_ ?c2 ?c3 ?c4 ?c5; (case kA => exact rfl); (case kF => exact rfl); (case kK => exact hk); (case k1 => k_asm); (case k2 => k_asm); (case k3 => k_asm); (case k4 => k_asm); (case k5 => k_asm); (case k6 => k_memK); (case k7 => exact codeRec_news N (by k_memK) (by assumption) (by assumption)); (case k8 => k_room); (case k9 => exact BindsTo.of_eq rfl); (case c5 => decide); (case kB => exact locs rfl); (case c2 => exact rfl); (case c3 => exact rfl); (case c4 => exact rfl); k_whole; intro g' L' h' FG' F' N' B' X' T'; (try dsimp only); (try k_lift B'); (try k_fold))
      k_steps
      (rename Fr h₀ _ _ _ => gF); (rename News h₀ _ _ _ => gN)
      exact h _ _ _ [] _ gF gN ⟨⟨_, rfl⟩, rfl⟩
    | v :: q, hlen, h =>
      dsimp only at h
      dsimp only [fix3, List.cons_append, List.nil_append] at N
      k_dflt (refine' code_nest ?k1 ?k2 ?k3 ?k4 ?k5 ?kA ?kF ?kK ?k6 ?k7 ?k8 ?k9 ?kB ?_ ?c2 ?c3 ?c4 ?c5; (case kA => exact rfl); (case kF => exact rfl); (case kK => exact hk); (case k1 => k_asm); (case k2 => k_asm); (case k3 => k_asm); (case k4 => k_asm); (case k5 => k_asm); (case k6 => k_memK); (case k7 => exact codeRec_news N (by k_memK) (by assumption) (by assumption)); (case k8 => k_room); (case k9 => exact BindsTo.of_eq rfl); (case c5 => decide); (case kB => exact locs rfl); (case c2 => exact rfl); (case c3 => exact rfl); (case c4 => exact rfl); k_whole; intro g' L' h' FG' F' N' B' X' T'; (try dsimp only); (try k_lift B'); (try k_fold))
      have hd1 : ∀ p ∈ rest, p.1 ≠ _ := hne
      k_steps; repeat' (first | (refine unhold ?_; (first | ((with_reducible show wpAny _ _ (call (Value.type "list") [Value.str _ _]) _ _ _); k_here; k_dflt (refine' list_strK (by rfl) ?k1zq ?k2zq ?k3zq ?_; (case k1zq => k_asm); (case k2zq => k_asm); (case k3zq => assumption); k_whole); intro l' h' tk' ys' n' F' N' l1 hc'; (try k_lt l1); (try k_sweep); (try (revert l' h' tk' ys' n' F' N' l1 hc'; intros))) | (k_dflt ((with_reducible show wpAny _ _ (call (Value.builtin _) [Value.ref _, Value.int _ _]) _ _ _); refine' kl_popAt ?Fzq ?Nzq ?fzq ?kzq ?ezq ?Uzq ?zzq ?_; (case Fzq => k_asm); (case Nzq => k_asm); (case Uzq => k_upd); (case fzq => rfl); (case kzq => exact pop0_idx _ _); (case ezq => rfl); (case zzq => exact pop0_fit (by assumption))); intro h' F' N'; (try dsimp only [List.nil_append, List.cons_append] at N'); (try (revert h' F' N'; intros)))); (try k_steps)))
      (rename Fr h₀ _ _ _ => gF); (rename News h₀ _ _ _ => gN)
      exact h _ _ _ q _ gF gN ⟨rfl, rfl⟩
theorem all_cut : ∀ w p loose mean mg mb A₀ base h₀ L m cn cs ca ccd cl outer gd s R news text tt g' L' h' tk' v_1, Pcut w p loose mean mg mb A₀ base h₀ L m cn cs ca ccd cl outer gd s R news text tt g' L' h' tk' v_1 := by
  have h : Pcut w p loose mean mg mb A₀ base h₀ L m cn cs ca ccd cl outer gd s R news text tt g' L' h' tk' v_1 := at_cut
  delta w p loose mean mg mb A₀ base h₀ L m cn cs ca ccd cl outer gd s R news text tt g' L' h' tk' v_1 at h
  exact fun w p loose mean mg mb A₀ base h₀ L m cn cs ca ccd cl outer gd s R news text tt g' L' h' tk' v_1 => Classical.choose_spec ex_cut h ((w, p, loose, mean, mg, mb), (A₀, base, h₀, L, m, cn), (cs, ca, ccd, cl, outer, gd), (s, R, news, text, tt, g'), (L', h', tk', v_1))
end K_lexer_spec
theorem lexer_spec : type_of% (@Subtype.property _ _ K_lexer_spec.cut (no_implicit_lambda% K_lexer_spec.all_cut)) := no_implicit_lambda% (@Subtype.property _ _ K_lexer_spec.cut (no_implicit_lambda% K_lexer_spec.all_cut))
end Mine
end
section
theorem Mine.off_W6 : True := by (w_top off; trivial)
open PySem PySem.W PyProof.Rows PySem.Spec
namespace Mine
/-- what a read leaves: the sign (or the empty text), the signs behind it, the line's number -/
noncomputable def ReadTo (vs : List Value) (ln : Int) (r : Value) (vs' : List Value) (ln' : Int) : Prop := match vs with
  | [] => (∃ t, r = .str (Str.ofString "") t) ∧ vs' = [] ∧ ln' = ln
  | v :: q => r = v ∧ vs' = q
local macro_rules | `(tactic| walk_at "call ref") => `(tactic| ((rename NextSpec _ _ _ _ => NX'); fail "mine"))
theorem news_app2 {h₀ h : Heap} {L : Addr} {a b : List (Addr × Obj)} (N : News h₀ L h a) (M : News h₀ L h b) : News h₀ L h (a ++ b) := fun p hp => (List.mem_append.mp hp).elim (N p) (M p)
namespace K_read_spec
set_option maxRecDepth 100000 in
set_option maxHeartbeats 1000000 in
noncomputable def cut : (@Subtype Prop fun P => P → ∀ {w : World} {p : Program} {loose : List Str} {mean : ExcName → Option Value} {mg mb : Str → Option Value} {A₀ : Around} {base h₀ : Heap} {L : Addr} {m : Str → Option Value} {cn : Str} {cs : Scope} {ca : Addr} {ccd : Value} {cl : List (Str × Addr)} {outer : List Env} {gd : Option (List Code)} {s : Shared} {R : Result → Shared → Prop} {z : LexH} {lf : Addr} {fix rest : List (Addr × Obj)} {ln : Int} {tln : Tok} {pbs vs : List Value} {npb nl : Nat} {foc : Value} {fod : Option Addr} {ffd : FuncData} {fsl : Array (Option Value)} (B : Below A₀ base outer h₀) (F : Fr h₀ L s.heap m) (X : (Mine.hd.heap_39 w.params).In h₀) (N : News h₀ L s.heap ((lf, W.listOf vs.toArray nl) :: (lexLed z ln tln pbs npb ++ (fix ++ rest)))) (T : Top p loose mean mg mb h₀) (CH : CodeHd base 142 138) (hk : cs.kind = .function) (NX : NextSpec w fix z.f lf) (hf : (z.f, (⟨foc, fod, .func ffd, fsl⟩ : Obj)) ∈ fix) (off : LexOff z lf (fix ++ rest)) (hlen : vs.length ≤ 10000) (hch : ∀ v ∈ vs, ∃ c t, v = .str ⟨#[c]⟩ t) (h : ∀ h' tk' r vs' nl' ln' tln', Fr h₀ L h' m → News h₀ L h' ((lf, W.listOf vs'.toArray nl') :: (lexLed z ln' tln' pbs npb ++ (fix ++ rest))) → ReadTo vs ln r vs' ln' → R (.ok (.ret r)) { s with heap := h', toks := tk' }), codeAny (model Challenge.rw_pg0196_01.row.prog w) (At 300 gd (envX cn cs L ca ccd cl :: outer)) (.call (.ref 42) ⟨[.ref z.lx], []⟩) R s) := by
  refine' mkCut fun hole => ?_
  rotate_left
  focus
  intro w p loose mean mg mb A₀ base h₀ L m cn cs ca ccd cl outer gd s R z lf fix rest ln tln pbs vs npb nl foc fod ffd fsl B F X N T CH hk NX hf off hlen hch h
  revert X
  k_fill
  intro X
  obtain ⟨lx, dl, st, ds, pb, pb2, f, h1, h2, h3, h4, g1, g2, g3, g4, g5, t1, t2, t3, t4, t5, u1, u2, u3, u4, u5, u6, u7⟩ := z
  obtain ⟨a1, a2, a3, a4, a5, b1, b3, b4, b5, c1, c3, c4, r1, r2, r3⟩ := off
  dsimp only [lexLed, List.cons_append, List.nil_append] at *
  have hfd : @Ne Nat f dl := r2 _ (List.mem_append_left _ hf)
  have hfl : @Ne Nat f lf := r1 _ (List.mem_append_left _ hf)
  have hfp : @Ne Nat f pb := r3 _ (List.mem_append_left _ hf)
  have N1 := nc N (show (f, (⟨foc, fod, .func ffd, fsl⟩ : Obj)) ∈ _ from List.mem_cons_of_mem _ (List.mem_cons_of_mem _ (List.mem_cons_of_mem _ (List.mem_cons_of_mem _ (List.mem_cons_of_mem _ (List.mem_cons_of_mem _ (List.mem_append_left _ hf))))))) N
  clear N
  k_dflt ktr_enter
  rename_i v_1 v_2 v_3 i_4 i_5 i_6 i_7 i_8 i_9
  revert B F T CH hk hlen hch X NX hf h a1 a2 a3 a4 a5 b1 b3 b4 b5 c1 c3 c4 r1 r2 r3 hfd hfl hfp N1 i_4 i_5 i_6 i_7 i_8 i_9
  revert qk ek
  dsimp (config := { beta := false, eta := false, etaStruct := .none, iota := false, proj := false }) only
  revert w p loose mean mg mb A₀ base h₀ L m cn cs ca ccd cl outer gd s R lf fix rest ln tln pbs vs npb nl foc fod ffd fsl lx dl st ds pb pb2 f h1 h2 h3 h4 g1 g2 g3 g4 g5 t1 t2 t3 t4 t5 u1 u2 u3 u4 u5 u6 u7 v_1 v_2 v_3
  exact no_implicit_lambda% hole.get
noncomputable section
noncomputable def Pcut : (World) → (Program) → (List Str) → (ExcName → Option Value) → (Str → Option Value) → (Str → Option Value) → (Around) → (Heap) → (Heap) → (Addr) → (Str → Option Value) → (Str) → (Scope) → (Addr) → (Value) → (List (Str × Addr)) → (List Env) → (Option (List Code)) → (Shared) → (Result → Shared → Prop) → (Addr) → (List (Addr × Obj)) → (List (Addr × Obj)) → (Int) → (Tok) → (List Value) → (List Value) → (Nat) → (Nat) → (Value) → (Option Addr) → (FuncData) → (Array (Option Value)) → (Addr) → (Addr) → (Addr) → (Addr) → (Addr) → (Addr) → (Addr) → (Int) → (Int) → (Int) → (Int) → (Int) → (Int) → (Int) → (Int) → (Int) → (Tok) → (Tok) → (Tok) → (Tok) → (Tok) → (Tok) → (Tok) → (Tok) → (Tok) → (Tok) → (Tok) → (Tok) → (Heap) → (Addr) → (Heap) → Prop := (@id (∀ {Rcut : (World) → (Program) → (List Str) → (ExcName → Option Value) → (Str → Option Value) → (Str → Option Value) → (Around) → (Heap) → (Heap) → (Addr) → (Str → Option Value) → (Str) → (Scope) → (Addr) → (Value) → (List (Str × Addr)) → (List Env) → (Option (List Code)) → (Shared) → (Result → Shared → Prop) → (Addr) → (List (Addr × Obj)) → (List (Addr × Obj)) → (Int) → (Tok) → (List Value) → (List Value) → (Nat) → (Nat) → (Value) → (Option Addr) → (FuncData) → (Array (Option Value)) → (Addr) → (Addr) → (Addr) → (Addr) → (Addr) → (Addr) → (Addr) → (Int) → (Int) → (Int) → (Int) → (Int) → (Int) → (Int) → (Int) → (Int) → (Tok) → (Tok) → (Tok) → (Tok) → (Tok) → (Tok) → (Tok) → (Tok) → (Tok) → (Tok) → (Tok) → (Tok) → (Heap) → (Addr) → (Heap) → Prop}, cut.1 = (∀ w p loose mean mg mb A₀ base h₀ L m cn cs ca ccd cl outer gd s R lf fix rest ln tln pbs vs npb nl foc fod ffd fsl lx dl st ds pb pb2 f h1 h2 h3 h4 g1 g2 g3 g4 g5 t1 t2 t3 t4 t5 u1 u2 u3 u4 u5 u6 u7 v_1 v_2 v_3, Rcut w p loose mean mg mb A₀ base h₀ L m cn cs ca ccd cl outer gd s R lf fix rest ln tln pbs vs npb nl foc fod ffd fsl lx dl st ds pb pb2 f h1 h2 h3 h4 g1 g2 g3 g4 g5 t1 t2 t3 t4 t5 u1 u2 u3 u4 u5 u6 u7 v_1 v_2 v_3) → _) fun {Rcut} _ => Rcut) rfl
noncomputable def Tcut : Type := (World × Program × (List Str) × (ExcName → Option Value) × (Str → Option Value) × (Str → Option Value) × Around × Heap) × (Heap × Addr × (Str → Option Value) × Str × Scope × Addr × Value × (List (Str × Addr))) × ((List Env) × (Option (List Code)) × Shared × (Result → Shared → Prop) × Addr × (List (Addr × Obj)) × (List (Addr × Obj)) × Int) × (Tok × (List Value) × (List Value) × Nat × Nat × Value × (Option Addr) × FuncData) × ((Array (Option Value)) × Addr × Addr × Addr × Addr × Addr × Addr × Addr) × (Int × Int × Int × Int × Int × Int × Int × Int) × (Int × Tok × Tok × Tok × Tok × Tok × Tok × Tok) × (Tok × Tok × Tok × Tok × Tok × Heap × Addr × Heap)
noncomputable def Qcut (x : Tcut) : Prop := Pcut x.1.1 x.1.2.1 x.1.2.2.1 x.1.2.2.2.1 x.1.2.2.2.2.1 x.1.2.2.2.2.2.1 x.1.2.2.2.2.2.2.1 x.1.2.2.2.2.2.2.2 x.2.1.1 x.2.1.2.1 x.2.1.2.2.1 x.2.1.2.2.2.1 x.2.1.2.2.2.2.1 x.2.1.2.2.2.2.2.1 x.2.1.2.2.2.2.2.2.1 x.2.1.2.2.2.2.2.2.2 x.2.2.1.1 x.2.2.1.2.1 x.2.2.1.2.2.1 x.2.2.1.2.2.2.1 x.2.2.1.2.2.2.2.1 x.2.2.1.2.2.2.2.2.1 x.2.2.1.2.2.2.2.2.2.1 x.2.2.1.2.2.2.2.2.2.2 x.2.2.2.1.1 x.2.2.2.1.2.1 x.2.2.2.1.2.2.1 x.2.2.2.1.2.2.2.1 x.2.2.2.1.2.2.2.2.1 x.2.2.2.1.2.2.2.2.2.1 x.2.2.2.1.2.2.2.2.2.2.1 x.2.2.2.1.2.2.2.2.2.2.2 x.2.2.2.2.1.1 x.2.2.2.2.1.2.1 x.2.2.2.2.1.2.2.1 x.2.2.2.2.1.2.2.2.1 x.2.2.2.2.1.2.2.2.2.1 x.2.2.2.2.1.2.2.2.2.2.1 x.2.2.2.2.1.2.2.2.2.2.2.1 x.2.2.2.2.1.2.2.2.2.2.2.2 x.2.2.2.2.2.1.1 x.2.2.2.2.2.1.2.1 x.2.2.2.2.2.1.2.2.1 x.2.2.2.2.2.1.2.2.2.1 x.2.2.2.2.2.1.2.2.2.2.1 x.2.2.2.2.2.1.2.2.2.2.2.1 x.2.2.2.2.2.1.2.2.2.2.2.2.1 x.2.2.2.2.2.1.2.2.2.2.2.2.2 x.2.2.2.2.2.2.1.1 x.2.2.2.2.2.2.1.2.1 x.2.2.2.2.2.2.1.2.2.1 x.2.2.2.2.2.2.1.2.2.2.1 x.2.2.2.2.2.2.1.2.2.2.2.1 x.2.2.2.2.2.2.1.2.2.2.2.2.1 x.2.2.2.2.2.2.1.2.2.2.2.2.2.1 x.2.2.2.2.2.2.1.2.2.2.2.2.2.2 x.2.2.2.2.2.2.2.1 x.2.2.2.2.2.2.2.2.1 x.2.2.2.2.2.2.2.2.2.1 x.2.2.2.2.2.2.2.2.2.2.1 x.2.2.2.2.2.2.2.2.2.2.2.1 x.2.2.2.2.2.2.2.2.2.2.2.2.1 x.2.2.2.2.2.2.2.2.2.2.2.2.2.1 x.2.2.2.2.2.2.2.2.2.2.2.2.2.2
theorem ex_cut : ∃ x : Tcut, Qcut x → ∀ y, Qcut y := by
  haveI := neW; haveI := neA; haveI := neS
  haveI : Nonempty Tcut := by unfold Tcut; set_option synthInstance.maxSize 2000 in infer_instance
  exact henk1 Qcut
noncomputable def Ccut : Tcut := Classical.choose ex_cut
@[irreducible] noncomputable def w : World := Ccut.1.1
@[irreducible] noncomputable def p : Program := Ccut.1.2.1
@[irreducible] noncomputable def loose : List Str := Ccut.1.2.2.1
@[irreducible] noncomputable def mean : ExcName → Option Value := Ccut.1.2.2.2.1
@[irreducible] noncomputable def mg : Str → Option Value := Ccut.1.2.2.2.2.1
@[irreducible] noncomputable def mb : Str → Option Value := Ccut.1.2.2.2.2.2.1
@[irreducible] noncomputable def A₀ : Around := Ccut.1.2.2.2.2.2.2.1
@[irreducible] noncomputable def base : Heap := Ccut.1.2.2.2.2.2.2.2
@[irreducible] noncomputable def h₀ : Heap := Ccut.2.1.1
@[irreducible] noncomputable def L : Addr := Ccut.2.1.2.1
@[irreducible] noncomputable def m : Str → Option Value := Ccut.2.1.2.2.1
@[irreducible] noncomputable def cn : Str := Ccut.2.1.2.2.2.1
@[irreducible] noncomputable def cs : Scope := Ccut.2.1.2.2.2.2.1
@[irreducible] noncomputable def ca : Addr := Ccut.2.1.2.2.2.2.2.1
@[irreducible] noncomputable def ccd : Value := Ccut.2.1.2.2.2.2.2.2.1
@[irreducible] noncomputable def cl : List (Str × Addr) := Ccut.2.1.2.2.2.2.2.2.2
@[irreducible] noncomputable def outer : List Env := Ccut.2.2.1.1
@[irreducible] noncomputable def gd : Option (List Code) := Ccut.2.2.1.2.1
@[irreducible] noncomputable def s : Shared := Ccut.2.2.1.2.2.1
@[irreducible] noncomputable def R : Result → Shared → Prop := Ccut.2.2.1.2.2.2.1
@[irreducible] noncomputable def lf : Addr := Ccut.2.2.1.2.2.2.2.1
@[irreducible] noncomputable def fix : List (Addr × Obj) := Ccut.2.2.1.2.2.2.2.2.1
@[irreducible] noncomputable def rest : List (Addr × Obj) := Ccut.2.2.1.2.2.2.2.2.2.1
@[irreducible] noncomputable def ln : Int := Ccut.2.2.1.2.2.2.2.2.2.2
@[irreducible] noncomputable def tln : Tok := Ccut.2.2.2.1.1
@[irreducible] noncomputable def pbs : List Value := Ccut.2.2.2.1.2.1
@[irreducible] noncomputable def vs : List Value := Ccut.2.2.2.1.2.2.1
@[irreducible] noncomputable def npb : Nat := Ccut.2.2.2.1.2.2.2.1
@[irreducible] noncomputable def nl : Nat := Ccut.2.2.2.1.2.2.2.2.1
@[irreducible] noncomputable def foc : Value := Ccut.2.2.2.1.2.2.2.2.2.1
@[irreducible] noncomputable def fod : Option Addr := Ccut.2.2.2.1.2.2.2.2.2.2.1
@[irreducible] noncomputable def ffd : FuncData := Ccut.2.2.2.1.2.2.2.2.2.2.2
@[irreducible] noncomputable def fsl : Array (Option Value) := Ccut.2.2.2.2.1.1
@[irreducible] noncomputable def lx : Addr := Ccut.2.2.2.2.1.2.1
@[irreducible] noncomputable def dl : Addr := Ccut.2.2.2.2.1.2.2.1
@[irreducible] noncomputable def st : Addr := Ccut.2.2.2.2.1.2.2.2.1
@[irreducible] noncomputable def ds : Addr := Ccut.2.2.2.2.1.2.2.2.2.1
@[irreducible] noncomputable def pb : Addr := Ccut.2.2.2.2.1.2.2.2.2.2.1
@[irreducible] noncomputable def pb2 : Addr := Ccut.2.2.2.2.1.2.2.2.2.2.2.1
@[irreducible] noncomputable def f : Addr := Ccut.2.2.2.2.1.2.2.2.2.2.2.2
@[irreducible] noncomputable def h1 : Int := Ccut.2.2.2.2.2.1.1
@[irreducible] noncomputable def h2 : Int := Ccut.2.2.2.2.2.1.2.1
@[irreducible] noncomputable def h3 : Int := Ccut.2.2.2.2.2.1.2.2.1
@[irreducible] noncomputable def h4 : Int := Ccut.2.2.2.2.2.1.2.2.2.1
@[irreducible] noncomputable def g1 : Int := Ccut.2.2.2.2.2.1.2.2.2.2.1
@[irreducible] noncomputable def g2 : Int := Ccut.2.2.2.2.2.1.2.2.2.2.2.1
@[irreducible] noncomputable def g3 : Int := Ccut.2.2.2.2.2.1.2.2.2.2.2.2.1
@[irreducible] noncomputable def g4 : Int := Ccut.2.2.2.2.2.1.2.2.2.2.2.2.2
@[irreducible] noncomputable def g5 : Int := Ccut.2.2.2.2.2.2.1.1
@[irreducible] noncomputable def t1 : Tok := Ccut.2.2.2.2.2.2.1.2.1
@[irreducible] noncomputable def t2 : Tok := Ccut.2.2.2.2.2.2.1.2.2.1
@[irreducible] noncomputable def t3 : Tok := Ccut.2.2.2.2.2.2.1.2.2.2.1
@[irreducible] noncomputable def t4 : Tok := Ccut.2.2.2.2.2.2.1.2.2.2.2.1
@[irreducible] noncomputable def t5 : Tok := Ccut.2.2.2.2.2.2.1.2.2.2.2.2.1
@[irreducible] noncomputable def u1 : Tok := Ccut.2.2.2.2.2.2.1.2.2.2.2.2.2.1
@[irreducible] noncomputable def u2 : Tok := Ccut.2.2.2.2.2.2.1.2.2.2.2.2.2.2
@[irreducible] noncomputable def u3 : Tok := Ccut.2.2.2.2.2.2.2.1
@[irreducible] noncomputable def u4 : Tok := Ccut.2.2.2.2.2.2.2.2.1
@[irreducible] noncomputable def u5 : Tok := Ccut.2.2.2.2.2.2.2.2.2.1
@[irreducible] noncomputable def u6 : Tok := Ccut.2.2.2.2.2.2.2.2.2.2.1
@[irreducible] noncomputable def u7 : Tok := Ccut.2.2.2.2.2.2.2.2.2.2.2.1
@[irreducible] noncomputable def v_1 : Heap := Ccut.2.2.2.2.2.2.2.2.2.2.2.2.1
@[irreducible] noncomputable def v_2 : Addr := Ccut.2.2.2.2.2.2.2.2.2.2.2.2.2.1
@[irreducible] noncomputable def v_3 : Heap := Ccut.2.2.2.2.2.2.2.2.2.2.2.2.2.2
end
local macro_rules | `(tactic| walk_at "getMethod ref") => `(tactic| walk_at "last getMethod ref")
set_option maxRecDepth 100000 in
set_option maxHeartbeats 1000000 in
theorem at_cut : Pcut w p loose mean mg mb A₀ base h₀ L m cn cs ca ccd cl outer gd s R lf fix rest ln tln pbs vs npb nl foc fod ffd fsl lx dl st ds pb pb2 f h1 h2 h3 h4 g1 g2 g3 g4 g5 t1 t2 t3 t4 t5 u1 u2 u3 u4 u5 u6 u7 v_1 v_2 v_3 := by
  intro B F T CH hk hlen hch X NX hf h a1 a2 a3 a4 a5 b1 b3 b4 b5 c1 c3 c4 r1 r2 r3 hfd hfl hfp N1 i_4 i_5 i_6 i_7 i_8 i_9
  k_steps
  (try dsimp only [List.cons_append, List.nil_append, List.append_nil])
  refine wpAny_call ?_
  (rename Fr _ _ _ _ => fF); (rename News _ _ _ _ => fN); (rename Below _ _ _ _ => fB); (rename Frag.In _ _ => fX); (rename Top _ _ _ _ _ _ => fT)
  k_dflt (refine' code_at (NX _ _ _ _ _ _ _ _ _ _ _ _ _ _ _ _ _ _ _ ((dl, _) :: (pb, _) :: (lx, _) :: (st, _) :: (ds, _) :: rest) vs _ _ _ fB fF fX ?N fT CH ?hk ?ne hlen ?h) ?b1 ?b2 ?b3 ?b4 ?b5)
  case b1 => exact rfl
  case b2 => exact rfl
  case b3 => exact rfl
  case b4 => exact Nat.le_of_ble_eq_true rfl
  case b5 => exact Nat.le_of_ble_eq_true rfl
  case hk => exact rfl
  case N => k_dflt (exact (nc fN (by k_memK) (news_app2 (fun p hp => fN p (by (repeat (first | exact List.mem_append_left _ hp | refine List.mem_cons_of_mem _ ?_)))) (nc fN (by k_memK) (nc fN (by k_memK) (nc fN (by k_memK) (nc fN (by k_memK) (nc fN (by k_memK) (fun p hp => fN p (by (repeat (first | exact List.mem_append_right _ hp | refine List.mem_cons_of_mem _ ?_))))))))))))
  case ne => exact List.forall_mem_cons.mpr ⟨Ne.symm a2, List.forall_mem_cons.mpr ⟨Ne.symm a5, List.forall_mem_cons.mpr ⟨Ne.symm a1, List.forall_mem_cons.mpr ⟨Ne.symm a3, List.forall_mem_cons.mpr ⟨Ne.symm a4, fun p hp => r1 p (List.mem_append_right _ hp)⟩⟩⟩⟩⟩
  case h =>
    intro h' tk' r vs' n' F' N' hr
    clear fF fN
    have N2 := nc N' (List.mem_cons_of_mem _ (List.mem_append_left _ hf)) (nc N' (.head _) (nc N' (List.mem_cons_of_mem _ (List.mem_append_right _ (.head _))) (nc N' (List.mem_cons_of_mem _ (List.mem_append_right _ (.tail _ (.head _)))) (nc N' (List.mem_cons_of_mem _ (List.mem_append_right _ (.tail _ (.tail _ (.head _))))) (nc N' (List.mem_cons_of_mem _ (List.mem_append_right _ (.tail _ (.tail _ (.tail _ (.head _)))))) (nc N' (List.mem_cons_of_mem _ (List.mem_append_right _ (.tail _ (.tail _ (.tail _ (.tail _ (.head _))))))) (fun p hp => N' p (List.mem_cons_of_mem _ ((List.mem_append.mp hp).elim (fun q => List.mem_append_left _ q) fun q => List.mem_append_right _ (.tail _ (.tail _ (.tail _ (.tail _ (.tail _ q))))))) : News _ _ _ (fix ++ rest))))))))
    clear N'
    dsimp only
    match vs, hlen, hch, h, hr with
    | [], hlen, hch, h, hr =>
      obtain ⟨⟨tt, rfl⟩, rfl⟩ := hr
      k_steps
      (rename Fr h₀ _ _ _ => gF); (rename News h₀ _ _ _ => gN)
      exact h _ _ _ [] _ ln _ gF (fun p hp => gN p (List.mem_cons_of_mem _ hp)) ⟨⟨_, rfl⟩, rfl, rfl⟩
    | v :: q, hlen, hch, h, hr =>
      obtain ⟨rfl, rfl⟩ := hr
      obtain ⟨c, tc, rfl⟩ := hch _ (.head _)
      k_steps
      all_goals ((rename Fr h₀ _ _ _ => gF); (rename News h₀ _ _ _ => gN); exact h _ _ _ _ _ _ _ gF (fun p hp => gN p (List.mem_cons_of_mem _ hp)) ⟨rfl, rfl⟩)
theorem all_cut : ∀ w p loose mean mg mb A₀ base h₀ L m cn cs ca ccd cl outer gd s R lf fix rest ln tln pbs vs npb nl foc fod ffd fsl lx dl st ds pb pb2 f h1 h2 h3 h4 g1 g2 g3 g4 g5 t1 t2 t3 t4 t5 u1 u2 u3 u4 u5 u6 u7 v_1 v_2 v_3, Pcut w p loose mean mg mb A₀ base h₀ L m cn cs ca ccd cl outer gd s R lf fix rest ln tln pbs vs npb nl foc fod ffd fsl lx dl st ds pb pb2 f h1 h2 h3 h4 g1 g2 g3 g4 g5 t1 t2 t3 t4 t5 u1 u2 u3 u4 u5 u6 u7 v_1 v_2 v_3 := by
  have h : Pcut w p loose mean mg mb A₀ base h₀ L m cn cs ca ccd cl outer gd s R lf fix rest ln tln pbs vs npb nl foc fod ffd fsl lx dl st ds pb pb2 f h1 h2 h3 h4 g1 g2 g3 g4 g5 t1 t2 t3 t4 t5 u1 u2 u3 u4 u5 u6 u7 v_1 v_2 v_3 := at_cut
  delta w p loose mean mg mb A₀ base h₀ L m cn cs ca ccd cl outer gd s R lf fix rest ln tln pbs vs npb nl foc fod ffd fsl lx dl st ds pb pb2 f h1 h2 h3 h4 g1 g2 g3 g4 g5 t1 t2 t3 t4 t5 u1 u2 u3 u4 u5 u6 u7 v_1 v_2 v_3 at h
  exact fun w p loose mean mg mb A₀ base h₀ L m cn cs ca ccd cl outer gd s R lf fix rest ln tln pbs vs npb nl foc fod ffd fsl lx dl st ds pb pb2 f h1 h2 h3 h4 g1 g2 g3 g4 g5 t1 t2 t3 t4 t5 u1 u2 u3 u4 u5 u6 u7 v_1 v_2 v_3 => Classical.choose_spec ex_cut h ((w, p, loose, mean, mg, mb, A₀, base), (h₀, L, m, cn, cs, ca, ccd, cl), (outer, gd, s, R, lf, fix, rest, ln), (tln, pbs, vs, npb, nl, foc, fod, ffd), (fsl, lx, dl, st, ds, pb, pb2, f), (h1, h2, h3, h4, g1, g2, g3, g4), (g5, t1, t2, t3, t4, t5, u1, u2), (u3, u4, u5, u6, u7, v_1, v_2, v_3))
end K_read_spec
theorem read_spec : type_of% (@Subtype.property _ _ K_read_spec.cut (no_implicit_lambda% K_read_spec.all_cut)) := no_implicit_lambda% (@Subtype.property _ _ K_read_spec.cut (no_implicit_lambda% K_read_spec.all_cut))
end Mine
end
section
open PySem PySem.W PyProof.Rows PySem.Spec PySem.Calls
set_option maxRecDepth 100000
namespace Mine
section
variable {prog : Program} {w : World} {A : Around} {E : Value → Shared → Prop} {s : Shared}
theorem ci_slot_next : Slot "callable_iterator" "__next__" "callable_iterator.__next__" :=
  .of (owner := "callable_iterator") (n := "__next__") (by rw [typeLookup_type, builtinLookup_eq_fast]; kernel_rfl) (by decide +kernel) (by decide +kernel) (by decide +kernel)
    (by first | exact .inl (by decide +kernel) | exact .inr (by decide +kernel)) (by rw [isSubtype_type]; kernel_rfl)
theorem ci_slot_iter : Slot "callable_iterator" "__iter__" "callable_iterator.__iter__" :=
  .of (owner := "callable_iterator") (n := "__iter__") (by rw [typeLookup_type, builtinLookup_eq_fast]; kernel_rfl) (by decide +kernel) (by decide +kernel) (by decide +kernel)
    (by first | exact .inl (by decide +kernel) | exact .inr (by decide +kernel)) (by rw [isSubtype_type]; kernel_rfl)
theorem ci_entry_iter : entryFor table "callable_iterator.__iter__" = some Builtin.«dict_keyiterator.__iter__» :=
  entryFor_alias (id' := "dict_keyiterator.__iter__") (by kernel_rfl) rfl (by decide +kernel) (by kernel_rfl)
theorem ci_entry_next : entryFor table "callable_iterator.__next__" = some Builtin.«callable_iterator.__next__» := entryFor_of_fast (by kernel_rfl)
theorem ci_args_next (a : Value) : argsOk "callable_iterator.__next__" ⟨[a], []⟩ := by unfold argsOk; kernel_rfl
theorem ci_args_iter (a : Value) : argsOk "callable_iterator.__iter__" ⟨[a], []⟩ := by unfold argsOk; kernel_rfl
theorem ci_args_iter2 (a b : Value) : argsOk "iter" ⟨[a, b], []⟩ := by unfold argsOk; kernel_rfl
theorem ci_method_call : typeLookup (.type "method") "__call__" = pure (some (.builtin "method.__call__")) := by rw [typeLookup_type, builtinLookup_eq_fast]; kernel_rfl
noncomputable abbrev ciObj (q : Addr) (e : Str) (te : Tok) : Obj := { cls := .type "callable_iterator", data := .fields #[.ref q, .str e te, .bool false] }
/-- iter(f, sentinel), f a bound method -/
theorem ci_iter {q : Addr} {f self : Value} {e : Str} {te : Tok} {h₀ : Heap} {L : Addr} {m : Str → Option Value} {news : List (Addr × Obj)} {Q : Value → Shared → Prop} (F : Fr h₀ L s.heap m) (N : News h₀ L s.heap news) (hq : (q, methodObj f self) ∈ news)
    (h : ∀ I h', Fr h₀ L h' m → News h₀ L h' ((I, ciObj q e te) :: news) → (∀ p ∈ news, p.1 < I) → Q (.ref I) { s with heap := h' }) :
    wpAny (model prog w) A (call (.builtin "iter") [.ref q, .str e te]) Q E s := by
  refine call_function_entry (by decide +kernel) (by decide +kernel) kdk_entry_iter (ci_args_iter2 _ _) ?_
  unfold Builtin.«iter»
  refine wpAny_bind (m := someArgs "iter" 1 2 _) (wpAny_of_eq (a := [Value.ref q, .str e te]) (by first | rfl | kernel_rfl!) ?_)
  show wpAny _ _ (specialOf (.ref q) "__call__" >>= _) _ _ _
  refine wpAny_bind (wpAny_specialOf (T := "method") ⟨_, (N _ hq).1, rfl⟩ ci_method_call ?_)
  rw [if_neg (by simp)]
  refine wpAny_bind (wpAny_rule ?_)
  refine wpAny_bind ?_
  refine wpAny_newObj_type ?_ (by size_fits)
  exact wpAny_pure ⟨_, rfl, h _ _ (F.push _) (News.push F N _ rfl) (fun p hp => Heap.lt_size (N p hp).1)⟩
theorem ci_self {I q : Addr} {e : Str} {te : Tok} {Q : Value → Shared → Prop} (hI : s.heap.get? I = some (ciObj q e te)) (h : Q (.ref I) s) : wpAny (model prog w) A (pyIter (.ref I)) Q E s := by
  have hT : s.TypeIs (.ref I) "callable_iterator" := ⟨_, hI, rfl⟩
  refine wpAny_pyIter_slot hT ci_slot_iter (wpAny_call_entry ci_slot_iter hT ci_entry_iter ?_ (ci_args_iter _))
  show wpAny _ _ (ret (.ref I)) _ _ s
  exact wpAny_pure ⟨_, rfl, "callable_iterator", _, hT, ci_slot_next.lookup, h⟩
theorem wp_borrowed {f : Value} {pos : List Value} {Q : Value → Shared → Prop}
    (hc : codeAny (model prog w) A (.call f ⟨pos, []⟩) (fun r s' => match r with | .ok (.ret v) => Q v s' | .ok _ => False | .error e => E e s') s) :
    wpAny (model prog w) A (callBorrowed f pos) Q E s := fun Γ p hΓ => by
  unfold callBorrowed
  rw [Sem.wp_call]
  have := hc _ p rfl (hΓ.enter (.call f ⟨pos, []⟩) none p (by intro x; cases x))
  refine wpCode_mono (fun r s' hr => ?_) this
  cases r with
  | error e => exact hr
  | ok fl => cases fl <;> exact hr
end
end Mine
end
section
open PySem PySem.W PyProof.Rows PySem.Spec PySem.Calls
set_option maxRecDepth 100000
namespace Mine
section
variable {prog : Program} {w : World} {A : Around} {E : Value → Shared → Prop} {s : Shared}
/-- a bound method of a def of the text is borrowed -/
theorem ci_borrows {q fa : Addr} {self : Value} {oc : Value} {od : Option Addr} {fd : FuncData} {sl : Array (Option Value)} {Q : Bool → Shared → Prop} (hq : s.heap.get? q = some (methodObj (.ref fa) self)) (hf : s.heap.get? fa = some ⟨oc, od, .func fd, sl⟩) (h : Q true s) :
    wpAny (model prog w) A (borrowsExactly (.ref q)) Q E s := by
  unfold borrowsExactly
  refine wpAny_bind (wpAny_load hq ?_)
  show wpAny _ _ (if ((Value.type "method") == .type "method") = true then _ else _) _ _ _
  rw [if_pos (by decide)]
  show wpAny _ _ (load fa >>= _) _ _ _
  exact wpAny_bind (wpAny_load hf (wpAny_pure h))
theorem ci_eq {e y : Str} {te ty : Tok} {Q : Bool → Shared → Prop} (h : Q (e == y) s) : wpAny (model prog w) A (eqBool (.str e te) (.str y ty)) Q E s := by
  unfold eqBool
  refine wpAny_holding ?_
  by_cases hv : (Value.str e te == Value.str y ty) = true
  · rw [if_pos hv]
    refine wpAny_bind (wpAny_rule (wpAny_pure ?_))
    have hh := eq_of_beq hv
    injection hh with h1 h2
    rw [h1] at h
    simpa using h
  · rw [if_neg hv]
    refine wpAny_bind ?_
    refine wpAny_mono (eq_str (x := e) (y := y) (t := te) (u := ty) (Q := fun v s' => v = .bool (e == y) ∧ s' = s) ⟨rfl, rfl⟩) (fun v s' hv' => ?_) fun _ _ x => x
    obtain ⟨rfl, rfl⟩ := hv'
    show wpAny _ _ (truthy (.bool (e == y))) _ _ _
    first | exact wpAny_pure h | (unfold truthy; exact wpAny_pure h)

theorem ci_next {I q fa : Addr} {self : Value} {e : Str} {te : Tok} {oc : Value} {od : Option Addr} {fd : FuncData} {sl : Array (Option Value)} {Q : Option Value → Shared → Prop} (hh : A.handled = none)
    (hI : s.heap.get? I = some (ciObj q e te)) (hq : s.heap.get? q = some (methodObj (.ref fa) self)) (hf : s.heap.get? fa = some ⟨oc, od, .func fd, sl⟩)
    (h : codeAny (model prog w) A.in1 (.call (.ref fa) ⟨[self], []⟩) (fun r s' => ∃ y ty, r = .ok (.ret (.str y ty)) ∧ s'.heap.get? I = some (ciObj q e te) ∧ s'.heap.get? q = some (methodObj (.ref fa) self) ∧ s'.heap.get? fa = some ⟨oc, od, .func fd, sl⟩ ∧
      (if (e == y) = true then ∀ h', Heap.ExtBut I s'.heap h' → Q none { s' with heap := h' } else Q (some (.str y ty)) s')) s) :
    wpAny (model prog w) A (pyNext (.ref I)) Q E s := by
  have hT : s.TypeIs (.ref I) "callable_iterator" := ⟨_, hI, rfl⟩
  unfold pyNext
  refine wpAny_bind (wpAny_attempt (wpAny_callSpecial?_slot (name := Str.ofString "__next__") hT ci_slot_next (wpAny_call_entry ci_slot_next hT ci_entry_next ?_ (ci_args_next _))))
  unfold Builtin.«callable_iterator.__next__»
  refine wpAny_bind (wpAny_pure ?_)
  dsimp only
  refine wpAny_bind (wpAny_field hI rfl (x := .bool false) rfl ?_)
  rw [if_neg (by decide)]
  refine wpAny_bind (wpAny_field hI rfl (x := .ref q) rfl ?_)
  refine wpAny_bind (wpAny_attempt ?_)
  unfold callOutOfASlot
  refine wpAny_bind (ci_borrows hq hf ?_)
  rw [if_pos rfl]
  refine wp_borrowed (method_call hq (codeAny_mono h fun r s' hr => ?_))
  obtain ⟨y, ty, rfl, hI', hq', hf', hr⟩ := hr
  dsimp only
  refine wpAny_bind (wpAny_field hI' rfl (x := .bool false) rfl ?_)
  rw [if_neg (by decide)]
  refine wpAny_bind (wpAny_field hI' rfl (x := .str e te) rfl ?_)
  refine wpAny_bind (wpAny_holding (ci_eq ?_))
  by_cases hy : (e == y) = true
  · rw [if_pos hy] at hr
    rw [hy]
    rw [if_neg (by decide)]
    refine wpAny_bind (wpAny_rule ?_)
    refine wpAny_bind ?_
    show wpAny _ _ (field (.ref I) 0 >>= fun x => slotLetsGo _ x _ >>= fun _ => setField (.ref I) 0 .none >>= fun _ => setField (.ref I) 1 .none >>= fun _ => setField (.ref I) 2 (.bool true)) _ _ _
    refine wpAny_bind (wpAny_field hI' rfl (x := .ref q) rfl ?_)
    refine wpAny_bind ?_
    unfold slotLetsGo
    show wpAny _ _ (borrowsExactly (.ref q) >>= _) _ _ _
    refine wpAny_bind (ci_borrows hq' hf' ?_)
    rw [if_pos rfl]
    refine wpAny_pure ?_
    refine wpAny_bind (wpAny_setField_rec hI' (by simp) fun h1 e1 x1 => ?_)
    refine wpAny_bind (wpAny_setField_rec e1 (by simp) fun h2 e2 x2 => ?_)
    refine wpAny_setField_rec e2 (by simp) fun h3 e3 x3 => ?_
    unfold Builtin.SmallTypes.stopIteration
    refine wpAny_bind ?_
    simp only [newExc, newTuple]
    refine wpAny_bind (wpAny_newObj_type ?_ (by size_fits))
    refine wpAny_bind (m := firstArgMember _ _) (wpAny_of_eq (a := Value.none) (by first | rfl | (simp only [firstArgMember]; rfl)) ?_)
    refine wpAny_newObj_type ?_ (by size_fits)
    simp only [raiseNew]
    refine wpAny_bind (wpAny_handled ?_)
    first | rw [show A.in1.handled = none from hh] | rw [hh]
    refine wpAny_bind (wpAny_pure (wpAny_throw ?_))
    refine wpAny_bind (wpAny_isInstance (T := "StopIteration") (b := true) ⟨_, Heap.get?_push_size _ rfl, rfl⟩ isSubtype_stop ?_)
    exact wpAny_pure (hr _ ((((x1.trans x2).trans x3).extBut.push _).push _))
  · rw [if_neg hy] at hr
    rw [if_pos (by simpa using hy)]
    refine wpAny_bind (wpAny_pure ?_)
    exact wpAny_pure ⟨_, rfl, wpAny_pure hr⟩
end
end Mine
end
section
open PySem PySem.W PyProof.Rows PySem.Spec PySem.Calls
set_option maxRecDepth 100000
namespace Mine
/-- what stands still while a lexer reads -/
structure LexOn (w : World) (z : LexH) (lf : Addr) (fix rest : List (Addr × Obj)) (base : Heap) : Prop where
  nx : NextSpec w fix z.f lf
  hf : ∃ foc fod ffd fsl, (z.f, (⟨foc, fod, .func ffd, fsl⟩ : Obj)) ∈ fix
  off : LexOff z lf (fix ++ rest)
  ch : CodeHd base 142 138
noncomputable abbrev lexAll (z : LexH) (lf : Addr) (vs : List Value) (nl : Nat) (ln : Int) (tln : Tok) (pbs : List Value) (npb : Nat) (fix rest : List (Addr × Obj)) : List (Addr × Obj) := (lf, W.listOf vs.toArray nl) :: (lexLed z ln tln pbs npb ++ (fix ++ rest))
theorem ChAre.each {vs : List Value} {l : List Nat} (h : ChAre vs l) : ∀ v ∈ vs, ∃ c t, v = Value.str ⟨#[c]⟩ t := by
  induction h with
  | nil => exact fun _ hv => nomatch hv
  | cons c t _ ih =>
    intro v hv
    rcases List.mem_cons.mp hv with rfl | hv
    · exact ⟨c, t, rfl⟩
    · exact ih v hv
theorem str_empty_ne (c : Nat) : (Str.ofString "" == (⟨#[c]⟩ : Str)) = false := by
  cases e : (Str.ofString "" == (⟨#[c]⟩ : Str)) with
  | false => rfl
  | true =>
    have := congrArg Str.cps (eq_of_beq e)
    have e2 : (Str.ofString "").cps = #[] := by decide +kernel
    rw [e2] at this
    simp at this
theorem fr_ext {h₀ h h' : Heap} {L I : Addr} {m : Str → Option Value} (F : Fr h₀ L h m) (x : Heap.ExtBut I h h') (h1 : L ≠ I) (h2 : h₀.get? I = none) : Fr h₀ L h' m := by
  obtain ⟨oL, es, ep, hL, r⟩ := F.ns
  refine ⟨⟨oL, es, ep, x L oL h1 hL, r⟩, fun b o e => x b o (fun q => by rw [q, h2] at e; cases e) (F.keep b o e), F.above⟩
section
variable {w : World} {p : Program} {loose : List Str} {mean : ExcName → Option Value} {mg mb : Str → Option Value} {A A₀ : Around} {base h₀ : Heap} {L : Addr} {m : Str → Option Value} {cn : Str} {cs : Scope} {ca : Addr} {ccd : Value} {cl : List (Str × Addr)} {outer : List Env} {s : Shared} {E : Value → Shared → Prop}
  {z : LexH} {lf I q : Addr} {fix rest : List (Addr × Obj)} {ln : Int} {tln te : Tok} {pbs vs : List Value} {npb nl : Nat} {c : Nat} {l : List Nat}
set_option maxHeartbeats 1000000 in
theorem lex_read {R : Result → Shared → Prop} (B : Below A₀ base outer h₀) (F : Fr h₀ L s.heap m) (X : (Mine.hd.heap_39 w.params).In h₀) (T : Top p loose mean mg mb h₀) (N : News h₀ L s.heap (lexAll z lf vs nl ln tln pbs npb fix rest)) (O : LexOn w z lf fix rest base)
    (hk : cs.kind = .function) (hA : A.frames = some (envX cn cs L ca ccd cl :: outer)) (hh : A.handled = none) (hd : A.depth ≤ 600) (hu : A.units ≤ 4 * 300) (hv : ChAre vs (c :: l)) (hlen : vs.length ≤ 10000)
    (h : ∀ h' tk' t vs' nl' ln' tln', Fr h₀ L h' m → News h₀ L h' (lexAll z lf vs' nl' ln' tln' pbs npb fix rest) → ChAre vs' l → vs'.length ≤ 10000 → R (.ok (.ret (.str ⟨#[c]⟩ t))) { s with heap := h', toks := tk' }) :
    codeAny (model Challenge.rw_pg0196_01.row.prog w) A (.call (.ref 42) ⟨[.ref z.lx], []⟩) R s := by
  obtain ⟨nx, ⟨foc, fod, ffd, fsl, hf⟩, off, ch⟩ := O
  refine code_at (read_spec (gd := A.guards) B F X N T ch hk nx hf off hlen hv.each ?_) hh hA rfl hd hu
  intro h' tk' r vs' nl' ln' tln' F' N' hr
  cases hv with
  | cons c t hv =>
    obtain ⟨rfl, rfl⟩ := hr
    exact h h' tk' t vs' nl' ln' tln' F' N' hv (by simp at hlen; omega)
theorem lex_read0 {R : Result → Shared → Prop} (B : Below A₀ base outer h₀) (F : Fr h₀ L s.heap m) (X : (Mine.hd.heap_39 w.params).In h₀) (T : Top p loose mean mg mb h₀) (N : News h₀ L s.heap (lexAll z lf [] nl ln tln pbs npb fix rest)) (O : LexOn w z lf fix rest base)
    (hk : cs.kind = .function) (hA : A.frames = some (envX cn cs L ca ccd cl :: outer)) (hh : A.handled = none) (hd : A.depth ≤ 600) (hu : A.units ≤ 4 * 300)
    (h : ∀ h' tk' t nl' tln', Fr h₀ L h' m → News h₀ L h' (lexAll z lf [] nl' ln tln' pbs npb fix rest) → R (.ok (.ret (.str (Str.ofString "") t))) { s with heap := h', toks := tk' }) :
    codeAny (model Challenge.rw_pg0196_01.row.prog w) A (.call (.ref 42) ⟨[.ref z.lx], []⟩) R s := by
  obtain ⟨nx, ⟨foc, fod, ffd, fsl, hf⟩, off, ch⟩ := O
  refine code_at (read_spec (gd := A.guards) B F X N T ch hk nx hf off (Nat.zero_le _) (fun _ hv => nomatch hv) ?_) hh hA rfl hd hu
  intro h' tk' r vs' nl' ln' tln' F' N' hr
  obtain ⟨⟨t, rfl⟩, rfl, rfl⟩ := hr
  exact h h' tk' t nl' tln' F' N'
theorem lex_next {oc : Value} {od : Option Addr} {fd : FuncData} {sl : Array (Option Value)} {Q : Option Value → Shared → Prop} (hf42 : (Mine.hd.heap_39 w.params).lookup 42 = some ⟨oc, od, .func fd, sl⟩)
    (B : Below A₀ base outer h₀) (F : Fr h₀ L s.heap m) (X : (Mine.hd.heap_39 w.params).In h₀) (T : Top p loose mean mg mb h₀) (N : News h₀ L s.heap (lexAll z lf vs nl ln tln pbs npb fix rest)) (O : LexOn w z lf fix rest base)
    (hk : cs.kind = .function) (hA : A.frames = some (envX cn cs L ca ccd cl :: outer)) (hh : A.handled = none) (hd : A.depth ≤ 600) (hu : A.units + 1 ≤ 4 * 300) (hI : (I, ciObj q (Str.ofString "") te) ∈ rest) (hq : (q, methodObj (.ref 42) (.ref z.lx)) ∈ rest) (hv : ChAre vs (c :: l)) (hlen : vs.length ≤ 10000)
    (h : ∀ h' tk' t vs' nl' ln' tln', Fr h₀ L h' m → News h₀ L h' (lexAll z lf vs' nl' ln' tln' pbs npb fix rest) → ChAre vs' l → vs'.length ≤ 10000 → Q (some (.str ⟨#[c]⟩ t)) { s with heap := h', toks := tk' }) :
    wpAny (model Challenge.rw_pg0196_01.row.prog w) A (pyNext (.ref I)) Q E s := by
  have mI : ∀ {vs nl ln tln}, (I, ciObj q (Str.ofString "") te) ∈ lexAll z lf vs nl ln tln pbs npb fix rest := List.mem_cons_of_mem _ (List.mem_append_right _ (List.mem_append_right _ hI))
  have mq : ∀ {vs nl ln tln}, (q, methodObj (.ref 42) (.ref z.lx)) ∈ lexAll z lf vs nl ln tln pbs npb fix rest := List.mem_cons_of_mem _ (List.mem_append_right _ (List.mem_append_right _ hq))
  refine ci_next hh (N _ mI).1 (N _ mq).1 (F.keep _ _ (X _ _ hf42)) (lex_read (A := A.in1) B F X T N O hk hA hh hd hu hv hlen ?_)
  intro h' tk' t vs' nl' ln' tln' F' N' hv' hl'
  refine ⟨_, _, rfl, (N' _ mI).1, (N' _ mq).1, F'.keep _ _ (X _ _ hf42), ?_⟩
  rw [str_empty_ne, if_neg (by decide)]
  exact h h' tk' t vs' nl' ln' tln' F' N' hv' hl'
theorem lex_stop {oc : Value} {od : Option Addr} {fd : FuncData} {sl : Array (Option Value)} {Q : Option Value → Shared → Prop} (hf42 : (Mine.hd.heap_39 w.params).lookup 42 = some ⟨oc, od, .func fd, sl⟩)
    (B : Below A₀ base outer h₀) (F : Fr h₀ L s.heap m) (X : (Mine.hd.heap_39 w.params).In h₀) (T : Top p loose mean mg mb h₀) (N : News h₀ L s.heap (lexAll z lf [] nl ln tln pbs npb fix rest)) (O : LexOn w z lf fix rest base)
    (hk : cs.kind = .function) (hA : A.frames = some (envX cn cs L ca ccd cl :: outer)) (hh : A.handled = none) (hd : A.depth ≤ 600) (hu : A.units + 1 ≤ 4 * 300) (hI : (I, ciObj q (Str.ofString "") te) ∈ rest) (hq : (q, methodObj (.ref 42) (.ref z.lx)) ∈ rest)
    (h : ∀ h' tk' nl' tln', Fr h₀ L h' m → (∀ news, (∀ p ∈ news, p ∈ lexAll z lf [] nl' ln tln' pbs npb fix rest) → (∀ p ∈ news, p.1 ≠ I) → News h₀ L h' news) → Q none { s with heap := h', toks := tk' }) :
    wpAny (model Challenge.rw_pg0196_01.row.prog w) A (pyNext (.ref I)) Q E s := by
  have mI : ∀ {vs nl ln tln}, (I, ciObj q (Str.ofString "") te) ∈ lexAll z lf vs nl ln tln pbs npb fix rest := List.mem_cons_of_mem _ (List.mem_append_right _ (List.mem_append_right _ hI))
  have mq : ∀ {vs nl ln tln}, (q, methodObj (.ref 42) (.ref z.lx)) ∈ lexAll z lf vs nl ln tln pbs npb fix rest := List.mem_cons_of_mem _ (List.mem_append_right _ (List.mem_append_right _ hq))
  refine ci_next hh (N _ mI).1 (N _ mq).1 (F.keep _ _ (X _ _ hf42)) (lex_read0 (A := A.in1) B F X T N O hk hA hh hd hu ?_)
  intro h' tk' t nl' tln' F' N'
  refine ⟨_, _, rfl, (N' _ mI).1, (N' _ mq).1, F'.keep _ _ (X _ _ hf42), ?_⟩
  rw [show (Str.ofString "" == Str.ofString "") = true from by simp, if_pos rfl]
  intro h'' x
  refine h h'' tk' nl' tln' (fr_ext F' x (Ne.symm (N' _ mI).2.1) (N' _ mI).2.2) fun news hs hn p hp => ⟨x _ _ (hn p hp) (N' p (hs p hp)).1, (N' p (hs p hp)).2⟩
end
theorem owit_ind {prog : Program} {w : World} {A : Around} {E : Value → Shared → Prop} {env : Env} {v : Str} {body : List Stmt} {Q : Flow → Shared → Prop} {I : Addr} (St : Nat → Shared → Prop)
    (step : ∀ k s (rest : Shared → Prop), St k s → (∀ j s', j < k → St j s' → rest s') → wpAny (model prog w) A (pyNext (.ref I)) (OwitTurn prog w A E env v body Q rest) E s) : ∀ n k s, k < n → St k s → OwitRest prog w A E env v body Q I n s := by
  intro n
  induction n with
  | zero => intro k s h; exact absurd h (Nat.not_lt_zero _)
  | succ n ih => exact fun k s h hs => OwitRest.succ (step k s _ hs fun j s' hj hs' => ih j s' (by omega) hs')
end Mine
end
section
theorem Mine.off_W10 : True := by (w_top off; trivial)
open PySem PySem.W PyProof.Rows PySem.Spec PySem.Calls
set_option maxRecDepth 100000
namespace Mine
noncomputable def escc (c : Nat) : List Nat := if c = 32 ∨ c = 9 then [92, c] else [c]
noncomputable def rowc (tok : List Nat) : List Nat := tok.flatMap escc ++ [10]
theorem rowc_cons (c : Nat) (t : List Nat) : rowc (c :: t) = escc c ++ rowc t := by simp [rowc]
noncomputable def NameC (c : Nat) : Prop := decide (c ∈ (Str.ofString "\n\t\r ").cps.toList) = false ∧ ((⟨#[c]⟩ : Str) == Str.ofString "\"") = false ∧ ((⟨#[c]⟩ : Str) == Str.ofString "\\") = false ∧ c ≠ 32 ∧ c ≠ 9
noncomputable def TokC (c : Nat) : Prop := (c = 32 ∨ c = 9) ∨ NameC c
theorem in_one {prog : Program} {w : World} {A : Around} {E : Value → Shared → Prop} {s : Shared} {c : Nat} {x : Str} {t u : Tok} {b : Bool} {Q : Value → Shared → Prop} (hb : decide (c ∈ x.cps.toList) = b) (h : Q (.bool b) s) : wpAny (model prog w) A (compareOp .In (.str ⟨#[c]⟩ u) (.str x t)) Q E s :=
  PyProof.Rows.in_str (by rw [StrLaws.found_one, hb]; exact h)
theorem eq_one {prog : Program} {w : World} {A : Around} {E : Value → Shared → Prop} {s : Shared} {x y : Str} {t u : Tok} {b : Bool} {Q : Value → Shared → Prop} (hb : (x == y) = b) (h : Q (.bool b) s) : wpAny (model prog w) A (compareOp .Eq (.str x u) (.str y t)) Q E s :=
  eq_str (by rw [hb]; exact h)
theorem canon3 {m : Str → Option Value} {a b c : Str} {x y z : Value} (h1 : m a = some x) (h2 : m b = some y) (h3 : m c = some z) : m = fun v => if v = a then some x else if v = b then some y else if v = c then some z else m v := by
  funext v
  by_cases e1 : v = a
  · rw [if_pos e1, e1, h1]
  · rw [if_neg e1]
    by_cases e2 : v = b
    · rw [if_pos e2, e2, h2]
    · rw [if_neg e2]
      by_cases e3 : v = c
      · rw [if_pos e3, e3, h3]
      · rw [if_neg e3]
local macro_rules | `(tactic| walk_at "compareOp In str str") => `(tactic| (k_here; (first | with_reducible refine' in_one ?hb ?_ | k_dflt (refine' in_one ?hb ?_)); (case hb => k_dflt (first | assumption | (refine (?_ : _ = false); decide +kernel) | (refine (?_ : _ = true); decide +kernel)))))
local macro_rules | `(tactic| walk_at "compareOp Eq str str") => `(tactic| (k_here; (first | with_reducible refine' eq_one ?hb ?_ | k_dflt (refine' eq_one ?hb ?_)); (case hb => k_dflt (first | assumption | (refine (?_ : _ = false); decide +kernel) | (refine (?_ : _ = true); decide +kernel)))))
theorem lit_all {w : World} {z : LexH} {lf : Addr} {fix rest : List (Addr × Obj)} {base : Heap} (_O : LexOn w z lf fix rest base) {h₀ h : Heap} {L : Addr} {a b : Addr × Obj} {vs pbs : List Value} {nl npb : Nat} {ln : Int} {tln : Tok} (N : News h₀ L h (a :: b :: lexAll z lf vs nl ln tln pbs npb fix rest)) :
    News h₀ L h (lexAll z lf vs nl ln tln pbs npb fix (a :: b :: rest)) := fun p hp => N p (by
  (try simp only [lexAll] at hp ⊢)
  revert p; k_extra "x:sub")
theorem all_lit {z : LexH} {lf : Addr} {fix rest : List (Addr × Obj)} {h₀ h : Heap} {L : Addr} {a b : Addr × Obj} {vs pbs : List Value} {nl npb : Nat} {ln : Int} {tln : Tok} (N : News h₀ L h (lexAll z lf vs nl ln tln pbs npb fix (a :: b :: rest))) :
    News h₀ L h (a :: b :: lexAll z lf vs nl ln tln pbs npb fix rest) := fun p hp => N p (by
  (try simp only [lexAll] at hp ⊢)
  revert p; k_extra "x:sub")
theorem LexOn.more {w : World} {z : LexH} {lf : Addr} {fix rest : List (Addr × Obj)} {base : Heap} (O : LexOn w z lf fix rest base) {a b : Addr × Obj} (h1 : @Ne Nat a.1 lf) (h2 : @Ne Nat a.1 z.dl) (h3 : @Ne Nat a.1 z.pb) (k1 : @Ne Nat b.1 lf) (k2 : @Ne Nat b.1 z.dl) (k3 : @Ne Nat b.1 z.pb) : LexOn w z lf fix (a :: b :: rest) base :=
  have key : ∀ {d : Addr}, (∀ p ∈ fix ++ rest, p.1 ≠ d) → a.1 ≠ d → b.1 ≠ d → ∀ p ∈ fix ++ a :: b :: rest, p.1 ≠ d := fun H ha hb p hp => by
    rcases List.mem_append.mp hp with hp | hp
    · exact H p (List.mem_append_left _ hp)
    · rcases List.mem_cons.mp hp with rfl | hp
      · exact ha
      · rcases List.mem_cons.mp hp with rfl | hp
        · exact hb
        · exact H p (List.mem_append_right _ hp)
  ⟨O.nx, O.hf, { O.off with r1 := key O.off.r1 h1 k1, r2 := key O.off.r2 h2 k2, r3 := key O.off.r3 h3 k3 }, O.ch⟩
theorem LexOn.of_news {w : World} {z : LexH} {lf : Addr} {fix rest : List (Addr × Obj)} {base : Heap} (O : LexOn w z lf fix rest base) {h₀ h : Heap} {L : Addr} {a b : Addr × Obj} {vs pbs : List Value} {nl npb : Nat} {ln : Int} {tln : Tok} (_N : News h₀ L h (a :: b :: lexAll z lf vs nl ln tln pbs npb fix rest)) (h1 : @Ne Nat a.1 lf) (h2 : @Ne Nat a.1 z.dl) (h3 : @Ne Nat a.1 z.pb) (k1 : @Ne Nat b.1 lf) (k2 : @Ne Nat b.1 z.dl) (k3 : @Ne Nat b.1 z.pb) : LexOn w z lf fix (a :: b :: rest) base := O.more h1 h2 h3 k1 k2 k3
noncomputable abbrev LexOn.zOf {w : World} {z : LexH} {lf : Addr} {fix rest : List (Addr × Obj)} {base : Heap} (_O : LexOn w z lf fix rest base) : LexH := z
theorem tok_start (c : Nat) (P : List Nat) : (Str.ofString "" ++ (⟨#[c]⟩ : Str)).cps.toList ++ P = c :: P := by
  rw [Str.cps_append]
  have e2 : (Str.ofString "").cps = #[] := by decide +kernel
  rw [e2]
  simp
theorem tok_more {T : Str} {c : Nat} {P tok : List Nat} (h : T.cps.toList ++ c :: P = tok) : (T ++ (⟨#[c]⟩ : Str)).cps.toList ++ P = tok := by
  rw [Str.cps_append, ← h]
  simp
theorem tok_all {T : Str} {tok : List Nat} (h : T.cps.toList ++ [] = tok) : T = ⟨tok.toArray⟩ := by
  rw [← h]
  cases T
  simp
noncomputable def LexSt (G : Heap) (L' : Addr) (z : LexH) (lf : Addr) (fix rest : List (Addr × Obj)) (I q : Addr) (te : Tok) (npb : Nat) (tok l2 : List Nat) (s : Shared) (k : Nat) (s' : Shared) : Prop :=
  ∃ (P : List Nat) (T : Str) (tT : Tok) (h : Heap) (tk : Nat) (m : Str → Option Value) (vs : List Value) (nl : Nat) (ln : Int) (tln : Tok), k = P.length ∧ s' = { s with heap := h, toks := tk } ∧ Fr G L' h m ∧ m (Str.ofString "self") = some (.ref z.lx) ∧ m (Str.ofString "token") = some (.str T tT) ∧ m (Str.ofString "fiter") = some (.ref I) ∧
    News G L' h ((I, ciObj q (Str.ofString "") te) :: (q, methodObj (.ref 42) (.ref z.lx)) :: lexAll z lf vs nl ln tln [] npb fix rest) ∧ ChAre vs (rowc P ++ l2) ∧ vs.length ≤ 10000 ∧ T.cps.toList ++ P = tok ∧ ∀ c ∈ P, TokC c
local macro_rules | `(tactic| walk_at "call ref") => `(tactic| (k_here; (try dsimp only [List.cons_append, List.nil_append, List.append_nil]); refine hold ?_))
def held_W10_1 : List String := "call builtin:iter;pyIter ref".splitOn ";"
local macro_rules | `(tactic| walk_at $s:str) => if held_W10_1.contains s.getString then `(tactic| (k_here; refine hold ?_)) else Lean.Macro.throwUnsupported
local macro_rules | `(tactic| walk_at "exec For Name Name cons nil") => `(tactic| (k_here; k_dflt (refine' owit_for ?_)))
local macro_rules | `(tactic| walk_at "OwitAt") => `(tactic| (refine OwitAt.intro ?_; refine hold ?_))
namespace K_get_read
set_option maxHeartbeats 2000000 in
noncomputable def cut : (@Subtype Prop fun P => P → ∀ {w : World} {p : Program} {loose : List Str} {mean : ExcName → Option Value} {mg mb : Str → Option Value} {A₀ : Around} {base h₀ : Heap} {L : Addr} {m : Str → Option Value} {cn : Str} {cs : Scope} {ca : Addr} {ccd : Value} {cl : List (Str × Addr)} {outer : List Env} {gd : Option (List Code)} {s : Shared} {R : Result → Shared → Prop} {z : LexH} {lf : Addr} {fix rest : List (Addr × Obj)} {ln : Int} {tln : Tok} {vs : List Value} {npb nl : Nat} {tok l2 : List Nat} (B : Below A₀ base outer h₀) (F : Fr h₀ L s.heap m) (X : (Mine.hd.heap_39 w.params).In h₀) (N : News h₀ L s.heap (lexAll z lf vs nl ln tln [] npb fix rest)) (T : Top p loose mean mg mb h₀) (hk : cs.kind = .function) (O : LexOn w z lf fix rest base) (hlen : vs.length ≤ 10000) (hv : ChAre vs (rowc tok ++ l2)) (hn0 : tok ≠ []) (hl8 : tok.length ≤ 12) (htok : ∀ c ∈ tok, TokC c) (h : ∀ h' tk' t vs' nl' ln' tln', Fr h₀ L h' m → News h₀ L h' (lexAll z lf vs' nl' ln' tln' [] npb fix rest) → ChAre vs' l2 → vs'.length ≤ 10000 → R (.ok (.ret (.str ⟨tok.toArray⟩ t))) { s with heap := h', toks := tk' }), codeAny (model Challenge.rw_pg0196_01.row.prog w) (At 250 gd (envX cn cs L ca ccd cl :: outer)) (.call (.ref 49) ⟨[.ref z.lx], []⟩) R s) := by
  refine' mkCut fun hole => ?_
  rotate_left
  focus
  intro w p loose mean mg mb A₀ base h₀ L m cn cs ca ccd cl outer gd s R z lf fix rest ln tln vs npb nl tok l2 B F X N T hk O hlen hv hn0 hl8 htok h
  revert X
  k_fill
  intro X
  have CH := O.ch
  obtain ⟨lx, dl, st, ds, pb, pb2, f, h1, h2, h3, h4, g1, g2, g3, g4, g5, t1, t2, t3, t4, t5, u1, u2, u3, u4, u5, u6, u7⟩ := z
  dsimp only [lexAll, lexLed, List.cons_append, List.nil_append] at N
  k_dflt ktr_enter
  k_steps; repeat' (first | (refine unhold ?_; (first | ((with_reducible show wpAny _ _ (call (Value.builtin "iter") [Value.ref _, Value.str _ _]) _ _ _); k_dflt (refine' ci_iter ?k1zq ?k2zq ?k3zq ?_; (case k1zq => k_asm); (case k2zq => k_asm); (case k3zq => k_mem); k_whole); intro I' h' F' N' l2; (try k_lt l2); (try (revert I' h' F' N' l2; intros))) | ((with_reducible show wpAny _ _ (pyIter (Value.ref _)) (OwitAt _ _ _ _ _ _ _ _) _ _); k_here; k_dflt (refine' ci_self ?hzq ?_; (case hzq => exact News.get (by k_asm) (by k_mem)); k_whole))); (try k_steps)))
  unfold Hold
  refine OwitRest.succ ?_
  (rename Fr _ _ _ _ => fF); (rename News _ _ _ _ => fN); (rename Below _ _ _ _ => fB); (rename Frag.In _ _ => fX); (rename Top _ _ _ _ _ _ => fT)
  (rename _ ∧ _ ∧ _ ∧ _ ∧ _ ∧ _ ∧ _ ∧ AllLt _ (fix ++ rest) => ll)
  (rename _ ∧ _ ∧ _ ∧ _ ∧ _ ∧ _ ∧ AllLt _ (fix ++ rest) => l1)
  have O' := O.of_news fN (Nat.ne_of_gt ll.2.1) (Nat.ne_of_gt ll.2.2.1) (Nat.ne_of_gt ll.2.2.2.1) (Nat.ne_of_gt l1.1) (Nat.ne_of_gt l1.2.1) (Nat.ne_of_gt l1.2.2.1)
  have N1 := lit_all O fN
  match tok, hn0, hl8, htok, hv, h with
  | c0 :: P, _, hl8, htok, hv, h =>
    rename_i i_1 i_2 i_3 i_4 v_5 v_6 v_7 i_8 v_9 v_10 v_11 v_12 v_13 v_14 v_15 v_16 i_17
    revert B F T hk hlen i_1 hn0 i_2 i_3 X CH N O i_4 i_8 fB fX fT l1 ll fF fN O' N1 i_17 hl8 htok hv h
    revert qk ek
    dsimp (config := { beta := false, eta := false, etaStruct := .none, iota := false, proj := false }) only
    revert w p loose mean mg mb A₀ base h₀ L m cn cs ca ccd cl outer gd s R lf fix rest ln tln vs npb nl tok l2 lx dl st ds pb pb2 f h1 h2 h3 h4 g1 g2 g3 g4 g5 t1 t2 t3 t4 t5 u1 u2 u3 u4 u5 u6 u7 v_5 v_6 v_7 v_9 v_10 v_11 v_12 v_13 v_14 v_15 v_16 tk c0 P
    exact no_implicit_lambda% hole.get
noncomputable section
noncomputable def Pcut : (World) → (Program) → (List Str) → (ExcName → Option Value) → (Str → Option Value) → (Str → Option Value) → (Around) → (Heap) → (Heap) → (Addr) → (Str → Option Value) → (Str) → (Scope) → (Addr) → (Value) → (List (Str × Addr)) → (List Env) → (Option (List Code)) → (Shared) → (Result → Shared → Prop) → (Addr) → (List (Addr × Obj)) → (List (Addr × Obj)) → (Int) → (Tok) → (List Value) → (Nat) → (Nat) → (List Nat) → (List Nat) → (Addr) → (Addr) → (Addr) → (Addr) → (Addr) → (Addr) → (Addr) → (Int) → (Int) → (Int) → (Int) → (Int) → (Int) → (Int) → (Int) → (Int) → (Tok) → (Tok) → (Tok) → (Tok) → (Tok) → (Tok) → (Tok) → (Tok) → (Tok) → (Tok) → (Tok) → (Tok) → (Heap) → (Addr) → (Heap) → (Nat) → (Nat) → (Heap) → (Addr) → (Heap) → (Addr) → (Heap) → (Heap) → (Nat) → (Nat) → (List Nat) → Prop := (@id (∀ {Rcut : (World) → (Program) → (List Str) → (ExcName → Option Value) → (Str → Option Value) → (Str → Option Value) → (Around) → (Heap) → (Heap) → (Addr) → (Str → Option Value) → (Str) → (Scope) → (Addr) → (Value) → (List (Str × Addr)) → (List Env) → (Option (List Code)) → (Shared) → (Result → Shared → Prop) → (Addr) → (List (Addr × Obj)) → (List (Addr × Obj)) → (Int) → (Tok) → (List Value) → (Nat) → (Nat) → (List Nat) → (List Nat) → (Addr) → (Addr) → (Addr) → (Addr) → (Addr) → (Addr) → (Addr) → (Int) → (Int) → (Int) → (Int) → (Int) → (Int) → (Int) → (Int) → (Int) → (Tok) → (Tok) → (Tok) → (Tok) → (Tok) → (Tok) → (Tok) → (Tok) → (Tok) → (Tok) → (Tok) → (Tok) → (Heap) → (Addr) → (Heap) → (Nat) → (Nat) → (Heap) → (Addr) → (Heap) → (Addr) → (Heap) → (Heap) → (Nat) → (Nat) → (List Nat) → Prop}, cut.1 = (∀ w p loose mean mg mb A₀ base h₀ L m cn cs ca ccd cl outer gd s R lf fix rest ln tln vs npb nl tok l2 lx dl st ds pb pb2 f h1 h2 h3 h4 g1 g2 g3 g4 g5 t1 t2 t3 t4 t5 u1 u2 u3 u4 u5 u6 u7 v_5 v_6 v_7 v_9 v_10 v_11 v_12 v_13 v_14 v_15 v_16 tk c0 P, Rcut w p loose mean mg mb A₀ base h₀ L m cn cs ca ccd cl outer gd s R lf fix rest ln tln vs npb nl tok l2 lx dl st ds pb pb2 f h1 h2 h3 h4 g1 g2 g3 g4 g5 t1 t2 t3 t4 t5 u1 u2 u3 u4 u5 u6 u7 v_5 v_6 v_7 v_9 v_10 v_11 v_12 v_13 v_14 v_15 v_16 tk c0 P) → _) fun {Rcut} _ => Rcut) rfl
noncomputable def Tcut : Type := (World × Program × (List Str) × (ExcName → Option Value) × (Str → Option Value) × (Str → Option Value) × Around × Heap × Heap) × (Addr × (Str → Option Value) × Str × Scope × Addr × Value × (List (Str × Addr)) × (List Env) × (Option (List Code))) × (Shared × (Result → Shared → Prop) × Addr × (List (Addr × Obj)) × (List (Addr × Obj)) × Int × Tok × (List Value) × Nat) × (Nat × (List Nat) × (List Nat) × Addr × Addr × Addr × Addr × Addr × Addr) × (Addr × Int × Int × Int × Int × Int × Int × Int × Int) × (Int × Tok × Tok × Tok × Tok × Tok × Tok × Tok × Tok) × (Tok × Tok × Tok × Tok × Heap × Addr × Heap × Nat × Nat) × (Heap × Addr × Heap × Addr × Heap × Heap × Nat × Nat × (List Nat))
noncomputable def Qcut (x : Tcut) : Prop := Pcut x.1.1 x.1.2.1 x.1.2.2.1 x.1.2.2.2.1 x.1.2.2.2.2.1 x.1.2.2.2.2.2.1 x.1.2.2.2.2.2.2.1 x.1.2.2.2.2.2.2.2.1 x.1.2.2.2.2.2.2.2.2 x.2.1.1 x.2.1.2.1 x.2.1.2.2.1 x.2.1.2.2.2.1 x.2.1.2.2.2.2.1 x.2.1.2.2.2.2.2.1 x.2.1.2.2.2.2.2.2.1 x.2.1.2.2.2.2.2.2.2.1 x.2.1.2.2.2.2.2.2.2.2 x.2.2.1.1 x.2.2.1.2.1 x.2.2.1.2.2.1 x.2.2.1.2.2.2.1 x.2.2.1.2.2.2.2.1 x.2.2.1.2.2.2.2.2.1 x.2.2.1.2.2.2.2.2.2.1 x.2.2.1.2.2.2.2.2.2.2.1 x.2.2.1.2.2.2.2.2.2.2.2 x.2.2.2.1.1 x.2.2.2.1.2.1 x.2.2.2.1.2.2.1 x.2.2.2.1.2.2.2.1 x.2.2.2.1.2.2.2.2.1 x.2.2.2.1.2.2.2.2.2.1 x.2.2.2.1.2.2.2.2.2.2.1 x.2.2.2.1.2.2.2.2.2.2.2.1 x.2.2.2.1.2.2.2.2.2.2.2.2 x.2.2.2.2.1.1 x.2.2.2.2.1.2.1 x.2.2.2.2.1.2.2.1 x.2.2.2.2.1.2.2.2.1 x.2.2.2.2.1.2.2.2.2.1 x.2.2.2.2.1.2.2.2.2.2.1 x.2.2.2.2.1.2.2.2.2.2.2.1 x.2.2.2.2.1.2.2.2.2.2.2.2.1 x.2.2.2.2.1.2.2.2.2.2.2.2.2 x.2.2.2.2.2.1.1 x.2.2.2.2.2.1.2.1 x.2.2.2.2.2.1.2.2.1 x.2.2.2.2.2.1.2.2.2.1 x.2.2.2.2.2.1.2.2.2.2.1 x.2.2.2.2.2.1.2.2.2.2.2.1 x.2.2.2.2.2.1.2.2.2.2.2.2.1 x.2.2.2.2.2.1.2.2.2.2.2.2.2.1 x.2.2.2.2.2.1.2.2.2.2.2.2.2.2 x.2.2.2.2.2.2.1.1 x.2.2.2.2.2.2.1.2.1 x.2.2.2.2.2.2.1.2.2.1 x.2.2.2.2.2.2.1.2.2.2.1 x.2.2.2.2.2.2.1.2.2.2.2.1 x.2.2.2.2.2.2.1.2.2.2.2.2.1 x.2.2.2.2.2.2.1.2.2.2.2.2.2.1 x.2.2.2.2.2.2.1.2.2.2.2.2.2.2.1 x.2.2.2.2.2.2.1.2.2.2.2.2.2.2.2 x.2.2.2.2.2.2.2.1 x.2.2.2.2.2.2.2.2.1 x.2.2.2.2.2.2.2.2.2.1 x.2.2.2.2.2.2.2.2.2.2.1 x.2.2.2.2.2.2.2.2.2.2.2.1 x.2.2.2.2.2.2.2.2.2.2.2.2.1 x.2.2.2.2.2.2.2.2.2.2.2.2.2.1 x.2.2.2.2.2.2.2.2.2.2.2.2.2.2.1 x.2.2.2.2.2.2.2.2.2.2.2.2.2.2.2
theorem ex_cut : ∃ x : Tcut, Qcut x → ∀ y, Qcut y := by
  haveI := neW; haveI := neA; haveI := neS
  haveI : Nonempty Tcut := by unfold Tcut; set_option synthInstance.maxSize 2000 in infer_instance
  exact henk1 Qcut
noncomputable def Ccut : Tcut := Classical.choose ex_cut
@[irreducible] noncomputable def w : World := Ccut.1.1
@[irreducible] noncomputable def p : Program := Ccut.1.2.1
@[irreducible] noncomputable def loose : List Str := Ccut.1.2.2.1
@[irreducible] noncomputable def mean : ExcName → Option Value := Ccut.1.2.2.2.1
@[irreducible] noncomputable def mg : Str → Option Value := Ccut.1.2.2.2.2.1
@[irreducible] noncomputable def mb : Str → Option Value := Ccut.1.2.2.2.2.2.1
@[irreducible] noncomputable def A₀ : Around := Ccut.1.2.2.2.2.2.2.1
@[irreducible] noncomputable def base : Heap := Ccut.1.2.2.2.2.2.2.2.1
@[irreducible] noncomputable def h₀ : Heap := Ccut.1.2.2.2.2.2.2.2.2
@[irreducible] noncomputable def L : Addr := Ccut.2.1.1
@[irreducible] noncomputable def m : Str → Option Value := Ccut.2.1.2.1
@[irreducible] noncomputable def cn : Str := Ccut.2.1.2.2.1
@[irreducible] noncomputable def cs : Scope := Ccut.2.1.2.2.2.1
@[irreducible] noncomputable def ca : Addr := Ccut.2.1.2.2.2.2.1
@[irreducible] noncomputable def ccd : Value := Ccut.2.1.2.2.2.2.2.1
@[irreducible] noncomputable def cl : List (Str × Addr) := Ccut.2.1.2.2.2.2.2.2.1
@[irreducible] noncomputable def outer : List Env := Ccut.2.1.2.2.2.2.2.2.2.1
@[irreducible] noncomputable def gd : Option (List Code) := Ccut.2.1.2.2.2.2.2.2.2.2
@[irreducible] noncomputable def s : Shared := Ccut.2.2.1.1
@[irreducible] noncomputable def R : Result → Shared → Prop := Ccut.2.2.1.2.1
@[irreducible] noncomputable def lf : Addr := Ccut.2.2.1.2.2.1
@[irreducible] noncomputable def fix : List (Addr × Obj) := Ccut.2.2.1.2.2.2.1
@[irreducible] noncomputable def rest : List (Addr × Obj) := Ccut.2.2.1.2.2.2.2.1
@[irreducible] noncomputable def ln : Int := Ccut.2.2.1.2.2.2.2.2.1
@[irreducible] noncomputable def tln : Tok := Ccut.2.2.1.2.2.2.2.2.2.1
@[irreducible] noncomputable def vs : List Value := Ccut.2.2.1.2.2.2.2.2.2.2.1
@[irreducible] noncomputable def npb : Nat := Ccut.2.2.1.2.2.2.2.2.2.2.2
@[irreducible] noncomputable def nl : Nat := Ccut.2.2.2.1.1
@[irreducible] noncomputable def tok : List Nat := Ccut.2.2.2.1.2.1
@[irreducible] noncomputable def l2 : List Nat := Ccut.2.2.2.1.2.2.1
@[irreducible] noncomputable def lx : Addr := Ccut.2.2.2.1.2.2.2.1
@[irreducible] noncomputable def dl : Addr := Ccut.2.2.2.1.2.2.2.2.1
@[irreducible] noncomputable def st : Addr := Ccut.2.2.2.1.2.2.2.2.2.1
@[irreducible] noncomputable def ds : Addr := Ccut.2.2.2.1.2.2.2.2.2.2.1
@[irreducible] noncomputable def pb : Addr := Ccut.2.2.2.1.2.2.2.2.2.2.2.1
@[irreducible] noncomputable def pb2 : Addr := Ccut.2.2.2.1.2.2.2.2.2.2.2.2
@[irreducible] noncomputable def f : Addr := Ccut.2.2.2.2.1.1
@[irreducible] noncomputable def h1 : Int := Ccut.2.2.2.2.1.2.1
@[irreducible] noncomputable def h2 : Int := Ccut.2.2.2.2.1.2.2.1
@[irreducible] noncomputable def h3 : Int := Ccut.2.2.2.2.1.2.2.2.1
@[irreducible] noncomputable def h4 : Int := Ccut.2.2.2.2.1.2.2.2.2.1
@[irreducible] noncomputable def g1 : Int := Ccut.2.2.2.2.1.2.2.2.2.2.1
@[irreducible] noncomputable def g2 : Int := Ccut.2.2.2.2.1.2.2.2.2.2.2.1
@[irreducible] noncomputable def g3 : Int := Ccut.2.2.2.2.1.2.2.2.2.2.2.2.1
@[irreducible] noncomputable def g4 : Int := Ccut.2.2.2.2.1.2.2.2.2.2.2.2.2
@[irreducible] noncomputable def g5 : Int := Ccut.2.2.2.2.2.1.1
@[irreducible] noncomputable def t1 : Tok := Ccut.2.2.2.2.2.1.2.1
@[irreducible] noncomputable def t2 : Tok := Ccut.2.2.2.2.2.1.2.2.1
@[irreducible] noncomputable def t3 : Tok := Ccut.2.2.2.2.2.1.2.2.2.1
@[irreducible] noncomputable def t4 : Tok := Ccut.2.2.2.2.2.1.2.2.2.2.1
@[irreducible] noncomputable def t5 : Tok := Ccut.2.2.2.2.2.1.2.2.2.2.2.1
@[irreducible] noncomputable def u1 : Tok := Ccut.2.2.2.2.2.1.2.2.2.2.2.2.1
@[irreducible] noncomputable def u2 : Tok := Ccut.2.2.2.2.2.1.2.2.2.2.2.2.2.1
@[irreducible] noncomputable def u3 : Tok := Ccut.2.2.2.2.2.1.2.2.2.2.2.2.2.2
@[irreducible] noncomputable def u4 : Tok := Ccut.2.2.2.2.2.2.1.1
@[irreducible] noncomputable def u5 : Tok := Ccut.2.2.2.2.2.2.1.2.1
@[irreducible] noncomputable def u6 : Tok := Ccut.2.2.2.2.2.2.1.2.2.1
@[irreducible] noncomputable def u7 : Tok := Ccut.2.2.2.2.2.2.1.2.2.2.1
@[irreducible] noncomputable def v_5 : Heap := Ccut.2.2.2.2.2.2.1.2.2.2.2.1
@[irreducible] noncomputable def v_6 : Addr := Ccut.2.2.2.2.2.2.1.2.2.2.2.2.1
@[irreducible] noncomputable def v_7 : Heap := Ccut.2.2.2.2.2.2.1.2.2.2.2.2.2.1
@[irreducible] noncomputable def v_9 : Nat := Ccut.2.2.2.2.2.2.1.2.2.2.2.2.2.2.1
@[irreducible] noncomputable def v_10 : Nat := Ccut.2.2.2.2.2.2.1.2.2.2.2.2.2.2.2
@[irreducible] noncomputable def v_11 : Heap := Ccut.2.2.2.2.2.2.2.1
@[irreducible] noncomputable def v_12 : Addr := Ccut.2.2.2.2.2.2.2.2.1
@[irreducible] noncomputable def v_13 : Heap := Ccut.2.2.2.2.2.2.2.2.2.1
@[irreducible] noncomputable def v_14 : Addr := Ccut.2.2.2.2.2.2.2.2.2.2.1
@[irreducible] noncomputable def v_15 : Heap := Ccut.2.2.2.2.2.2.2.2.2.2.2.1
@[irreducible] noncomputable def v_16 : Heap := Ccut.2.2.2.2.2.2.2.2.2.2.2.2.1
@[irreducible] noncomputable def tk : Nat := Ccut.2.2.2.2.2.2.2.2.2.2.2.2.2.1
@[irreducible] noncomputable def c0 : Nat := Ccut.2.2.2.2.2.2.2.2.2.2.2.2.2.2.1
@[irreducible] noncomputable def P : List Nat := Ccut.2.2.2.2.2.2.2.2.2.2.2.2.2.2.2
end
set_option maxHeartbeats 2000000 in
theorem at_cut : Pcut w p loose mean mg mb A₀ base h₀ L m cn cs ca ccd cl outer gd s R lf fix rest ln tln vs npb nl tok l2 lx dl st ds pb pb2 f h1 h2 h3 h4 g1 g2 g3 g4 g5 t1 t2 t3 t4 t5 u1 u2 u3 u4 u5 u6 u7 v_5 v_6 v_7 v_9 v_10 v_11 v_12 v_13 v_14 v_15 v_16 tk c0 P := by
  intro B F T hk hlen i_1 hn0 i_2 i_3 X CH N O i_4 i_8 fB fX fT l1 ll fF fN O' N1 i_17 hl8 htok hv h
  rw [rowc_cons] at hv
  revert fF fN N1 hv hlen
  refine' stp_with ?stp (fun step => ?main)
  case main =>
    intro hlen fF fN N1 hv
    rcases htok c0 (.head _) with hc | hc
    · have HV : ChAre vs (92 :: (c0 :: (rowc P ++ l2))) := by simpa [escc, hc] using hv
      k_dflt (refine' lex_next ?hf42 fB fF fX fT N1 O' ?hk ?hA ?hh ?hd ?hu ?hI ?hq HV hlen ?hn)
      case hf42 => k_is
      case hA => exact rfl
      case hk => exact rfl
      case hh => exact rfl
      case hd => exact Nat.le_of_ble_eq_true rfl
      case hu => exact Nat.le_of_ble_eq_true rfl
      case hI => exact .head _
      case hq => exact .tail _ (.head _)
      case hn =>
        clear fF fN N1
        intro h' tk' t vs' nl' ln' tln' F' N' hv' hl'
        replace N' := all_lit N'
        dsimp only [lexAll, lexLed, List.cons_append, List.nil_append] at N'
        dsimp only [OwitTurn]
        k_steps
        unfold Hold
        refine wpAny_call ?_
        (rename Fr _ _ _ _ => fF); (rename News _ _ _ _ => fN)
        have N1 := lit_all O fN
        k_dflt (refine' lex_read fB fF fX fT N1 O' ?hk ?hA ?hh ?hd ?hu hv' hl' ?hn)
        case hA => exact rfl
        case hk => exact rfl
        case hh => exact rfl
        case hd => exact Nat.le_of_ble_eq_true rfl
        case hu => exact Nat.le_of_ble_eq_true rfl
        case hn =>
          clear fF fN N1
          intro h' tk' t vs' nl' ln' tln' F' N' hv' hl'
          replace N' := all_lit N'
          dsimp only [lexAll, lexLed, List.cons_append, List.nil_append] at N'
          dsimp only
          k_steps; repeat' (first | (refine unhold ?_; (first | ((with_reducible show wpAny _ _ (call (Value.builtin "iter") [Value.ref _, Value.str _ _]) _ _ _); k_dflt (refine' ci_iter ?k1zq ?k2zq ?k3zq ?_; (case k1zq => k_asm); (case k2zq => k_asm); (case k3zq => k_mem); k_whole); intro I' h' F' N' l2; (try k_lt l2); (try (revert I' h' F' N' l2; intros))) | ((with_reducible show wpAny _ _ (pyIter (Value.ref _)) (OwitAt _ _ _ _ _ _ _ _) _ _); k_here; k_dflt (refine' ci_self ?hzq ?_; (case hzq => exact News.get (by k_asm) (by k_mem)); k_whole))); (try k_steps)))
          unfold Hold
          (rename Fr _ _ _ _ => fF); (rename News _ _ _ _ => fN)
          k_dflt (refine' owit_ind (LexSt _ _ O.zOf lf fix rest _ _ _ npb (c0 :: P) l2 s) ?stq 64 P.length _ ?lt ?st)
          case lt => (simp at hl8; omega)
          case st =>
            k_dflt (refine' ⟨P, _, _, _, _, _, _, _, _, _, rfl, rfl, fF, ?yy1, ?yy2, ?yy3, fN, hv', hl', tok_start _ _, fun x hx => htok x (.tail _ hx)⟩)
            case yy1 => with_unfolding_all exact rfl
            case yy2 => with_unfolding_all exact rfl
            case yy3 => with_unfolding_all exact rfl
          case stq => exact step.get
    · obtain ⟨q1, q2, q3, q4, q5⟩ := hc
      have HV : ChAre vs (c0 :: (rowc P ++ l2)) := by simpa [escc, q4, q5] using hv
      k_dflt (refine' lex_next ?hf42 fB fF fX fT N1 O' ?hk ?hA ?hh ?hd ?hu ?hI ?hq HV hlen ?hn)
      case hf42 => k_is
      case hA => exact rfl
      case hk => exact rfl
      case hh => exact rfl
      case hd => exact Nat.le_of_ble_eq_true rfl
      case hu => exact Nat.le_of_ble_eq_true rfl
      case hI => exact .head _
      case hq => exact .tail _ (.head _)
      case hn =>
        clear fF fN N1
        intro h' tk' t vs' nl' ln' tln' F' N' hv' hl'
        replace N' := all_lit N'
        dsimp only [lexAll, lexLed, List.cons_append, List.nil_append] at N'
        dsimp only [OwitTurn]
        k_steps; repeat' (first | (refine unhold ?_; (first | ((with_reducible show wpAny _ _ (call (Value.builtin "iter") [Value.ref _, Value.str _ _]) _ _ _); k_dflt (refine' ci_iter ?k1zq ?k2zq ?k3zq ?_; (case k1zq => k_asm); (case k2zq => k_asm); (case k3zq => k_mem); k_whole); intro I' h' F' N' l2; (try k_lt l2); (try (revert I' h' F' N' l2; intros))) | ((with_reducible show wpAny _ _ (pyIter (Value.ref _)) (OwitAt _ _ _ _ _ _ _ _) _ _); k_here; k_dflt (refine' ci_self ?hzq ?_; (case hzq => exact News.get (by k_asm) (by k_mem)); k_whole))); (try k_steps)))
        unfold Hold
        (rename Fr _ _ _ _ => fF); (rename News _ _ _ _ => fN)
        k_dflt (refine' owit_ind (LexSt _ _ O.zOf lf fix rest _ _ _ npb (c0 :: P) l2 s) ?stq 64 P.length _ ?lt ?st)
        case lt => (simp at hl8; omega)
        case st =>
          k_dflt (refine' ⟨P, _, _, _, _, _, _, _, _, _, rfl, rfl, fF, ?yy1, ?yy2, ?yy3, fN, hv', hl', tok_start _ _, fun x hx => htok x (.tail _ hx)⟩)
          case yy1 => with_unfolding_all exact rfl
          case yy2 => with_unfolding_all exact rfl
          case yy3 => with_unfolding_all exact rfl
        case stq => exact step.get
  case stp =>
    rintro k s' rs ⟨P', T, tT, h', tk, m', vs, nl, ln, tln, rfl, rfl, fF, e1, e2, e3, fN, hv, hlen, hT, hP⟩ hr
    rw [canon3 e1 e2 e3] at fF
    have hT12 : T.length ≤ 16 := by
      have q := congrArg List.length hT
      simp at q hl8
      show T.cps.size ≤ 16
      omega
    have N1 := lit_all O fN
    match P', hv, hT, hP, hr with
    | [], hv, hT, hP, hr =>
      have HV : ChAre vs (10 :: l2) := by simpa [rowc] using hv
      k_dflt (refine' lex_next ?hf42 fB fF fX fT N1 O' ?hk ?hA ?hh ?hd ?hu ?hI ?hq HV hlen ?hn)
      case hf42 => k_is
      case hA => exact rfl
      case hk => exact rfl
      case hh => exact rfl
      case hd => exact Nat.le_of_ble_eq_true rfl
      case hu => exact Nat.le_of_ble_eq_true rfl
      case hI => exact .head _
      case hq => exact .tail _ (.head _)
      case hn =>
        clear fF fN N1
        intro h' tk' t vs' nl' ln' tln' F' N' hv' hl'
        replace N' := all_lit N'
        dsimp only [lexAll, lexLed, List.cons_append, List.nil_append] at N'
        dsimp only [OwitTurn]
        k_steps
        (rename Fr h₀ _ _ _ => gF); (rename News h₀ _ _ _ => gN)
        rw [tok_all hT]
        exact h _ _ _ _ _ _ _ gF (fun p hp => gN p (List.mem_cons_of_mem _ (List.mem_cons_of_mem _ hp))) hv' hl'
    | c :: P2, hv, hT, hP, hr =>
      rw [rowc_cons] at hv
      rcases hP c (.head _) with hc | hc
      · have HV : ChAre vs (92 :: (c :: (rowc P2 ++ l2))) := by simpa [escc, hc] using hv
        k_dflt (refine' lex_next ?hf42 fB fF fX fT N1 O' ?hk ?hA ?hh ?hd ?hu ?hI ?hq HV hlen ?hn)
        case hf42 => k_is
        case hA => exact rfl
        case hk => exact rfl
        case hh => exact rfl
        case hd => exact Nat.le_of_ble_eq_true rfl
        case hu => exact Nat.le_of_ble_eq_true rfl
        case hI => exact .head _
        case hq => exact .tail _ (.head _)
        case hn =>
          clear fF fN N1
          intro h' tk' t vs' nl' ln' tln' F' N' hv' hl'
          replace N' := all_lit N'
          dsimp only [lexAll, lexLed, List.cons_append, List.nil_append] at N'
          dsimp only [OwitTurn]
          k_steps
          unfold Hold
          refine wpAny_call ?_
          (rename Fr _ _ _ _ => fF); (rename News _ _ _ _ => fN)
          have N1 := lit_all O fN
          k_dflt (refine' lex_read fB fF fX fT N1 O' ?hk ?hA ?hh ?hd ?hu hv' hl' ?hn)
          case hA => exact rfl
          case hk => exact rfl
          case hh => exact rfl
          case hd => exact Nat.le_of_ble_eq_true rfl
          case hu => exact Nat.le_of_ble_eq_true rfl
          case hn =>
            clear fF fN N1
            intro h' tk' t vs' nl' ln' tln' F' N' hv' hl'
            replace N' := all_lit N'
            dsimp only [lexAll, lexLed, List.cons_append, List.nil_append] at N'
            dsimp only
            k_steps
            (rename Fr _ _ _ _ => fF); (rename News _ _ _ _ => fN)
            k_dflt (refine' hr P2.length _ (Nat.lt_succ_self _) ⟨P2, _, _, _, _, _, _, _, _, _, rfl, rfl, fF, ?yy1, ?yy2, ?yy3, fN, hv', hl', tok_more hT, fun x hx => hP x (.tail _ hx)⟩)
            case yy1 => with_unfolding_all exact rfl
            case yy2 => with_unfolding_all exact rfl
            case yy3 => with_unfolding_all exact rfl
      · obtain ⟨q1, q2, q3, q4, q5⟩ := hc
        have HV : ChAre vs (c :: (rowc P2 ++ l2)) := by simpa [escc, q4, q5] using hv
        k_dflt (refine' lex_next ?hf42 fB fF fX fT N1 O' ?hk ?hA ?hh ?hd ?hu ?hI ?hq HV hlen ?hn)
        case hf42 => k_is
        case hA => exact rfl
        case hk => exact rfl
        case hh => exact rfl
        case hd => exact Nat.le_of_ble_eq_true rfl
        case hu => exact Nat.le_of_ble_eq_true rfl
        case hI => exact .head _
        case hq => exact .tail _ (.head _)
        case hn =>
          clear fF fN N1
          intro h' tk' t vs' nl' ln' tln' F' N' hv' hl'
          replace N' := all_lit N'
          dsimp only [lexAll, lexLed, List.cons_append, List.nil_append] at N'
          dsimp only [OwitTurn]
          k_steps
          (rename Fr _ _ _ _ => fF); (rename News _ _ _ _ => fN)
          k_dflt (refine' hr P2.length _ (Nat.lt_succ_self _) ⟨P2, _, _, _, _, _, _, _, _, _, rfl, rfl, fF, ?yy1, ?yy2, ?yy3, fN, hv', hl', tok_more hT, fun x hx => hP x (.tail _ hx)⟩)
          case yy1 => with_unfolding_all exact rfl
          case yy2 => with_unfolding_all exact rfl
          case yy3 => with_unfolding_all exact rfl
theorem all_cut : ∀ w p loose mean mg mb A₀ base h₀ L m cn cs ca ccd cl outer gd s R lf fix rest ln tln vs npb nl tok l2 lx dl st ds pb pb2 f h1 h2 h3 h4 g1 g2 g3 g4 g5 t1 t2 t3 t4 t5 u1 u2 u3 u4 u5 u6 u7 v_5 v_6 v_7 v_9 v_10 v_11 v_12 v_13 v_14 v_15 v_16 tk c0 P, Pcut w p loose mean mg mb A₀ base h₀ L m cn cs ca ccd cl outer gd s R lf fix rest ln tln vs npb nl tok l2 lx dl st ds pb pb2 f h1 h2 h3 h4 g1 g2 g3 g4 g5 t1 t2 t3 t4 t5 u1 u2 u3 u4 u5 u6 u7 v_5 v_6 v_7 v_9 v_10 v_11 v_12 v_13 v_14 v_15 v_16 tk c0 P := by
  have h : Pcut w p loose mean mg mb A₀ base h₀ L m cn cs ca ccd cl outer gd s R lf fix rest ln tln vs npb nl tok l2 lx dl st ds pb pb2 f h1 h2 h3 h4 g1 g2 g3 g4 g5 t1 t2 t3 t4 t5 u1 u2 u3 u4 u5 u6 u7 v_5 v_6 v_7 v_9 v_10 v_11 v_12 v_13 v_14 v_15 v_16 tk c0 P := at_cut
  delta w p loose mean mg mb A₀ base h₀ L m cn cs ca ccd cl outer gd s R lf fix rest ln tln vs npb nl tok l2 lx dl st ds pb pb2 f h1 h2 h3 h4 g1 g2 g3 g4 g5 t1 t2 t3 t4 t5 u1 u2 u3 u4 u5 u6 u7 v_5 v_6 v_7 v_9 v_10 v_11 v_12 v_13 v_14 v_15 v_16 tk c0 P at h
  exact fun w p loose mean mg mb A₀ base h₀ L m cn cs ca ccd cl outer gd s R lf fix rest ln tln vs npb nl tok l2 lx dl st ds pb pb2 f h1 h2 h3 h4 g1 g2 g3 g4 g5 t1 t2 t3 t4 t5 u1 u2 u3 u4 u5 u6 u7 v_5 v_6 v_7 v_9 v_10 v_11 v_12 v_13 v_14 v_15 v_16 tk c0 P => Classical.choose_spec ex_cut h ((w, p, loose, mean, mg, mb, A₀, base, h₀), (L, m, cn, cs, ca, ccd, cl, outer, gd), (s, R, lf, fix, rest, ln, tln, vs, npb), (nl, tok, l2, lx, dl, st, ds, pb, pb2), (f, h1, h2, h3, h4, g1, g2, g3, g4), (g5, t1, t2, t3, t4, t5, u1, u2, u3), (u4, u5, u6, u7, v_5, v_6, v_7, v_9, v_10), (v_11, v_12, v_13, v_14, v_15, v_16, tk, c0, P))
end K_get_read
theorem get_read : type_of% (@Subtype.property _ _ K_get_read.cut (no_implicit_lambda% K_get_read.all_cut)) := no_implicit_lambda% (@Subtype.property _ _ K_get_read.cut (no_implicit_lambda% K_get_read.all_cut))
end Mine
end
section
local macro_rules | `(tactic| walk_at "none") => `(tactic| skip)
theorem Mine.off_W11 : True := by (w_top off; trivial)
open PySem PySem.W PyProof.Rows PySem.Spec PySem.Calls
set_option maxRecDepth 100000
namespace Mine
local macro_rules | `(tactic| walk_at "compareOp In str str") => `(tactic| (k_here; (first | with_reducible refine' in_one ?hb ?_ | k_dflt (refine' in_one ?hb ?_)); (case hb => k_dflt (first | assumption | (refine (?_ : _ = false); decide +kernel) | (refine (?_ : _ = true); decide +kernel)))))
local macro_rules | `(tactic| walk_at "compareOp Eq str str") => `(tactic| (k_here; (first | with_reducible refine' eq_one ?hb ?_ | k_dflt (refine' eq_one ?hb ?_)); (case hb => k_dflt (first | assumption | (refine (?_ : _ = false); decide +kernel) | (refine (?_ : _ = true); decide +kernel)))))
local macro_rules | `(tactic| walk_at "call ref") => `(tactic| (k_here; (try dsimp only [List.cons_append, List.nil_append, List.append_nil]); refine hold ?_))
def held_W11_1 : List String := "call builtin:iter;pyIter ref".splitOn ";"
local macro_rules | `(tactic| walk_at $s:str) => if held_W11_1.contains s.getString then `(tactic| (k_here; refine hold ?_)) else Lean.Macro.throwUnsupported
local macro_rules | `(tactic| walk_at "exec For Name Name cons nil") => `(tactic| (k_here; k_dflt (refine' owit_for ?_)))
local macro_rules | `(tactic| walk_at "OwitAt") => `(tactic| (refine OwitAt.intro ?_; refine hold ?_))

set_option maxHeartbeats 2000000 in
theorem get_none {w : World} {p : Program} {loose : List Str} {mean : ExcName → Option Value} {mg mb : Str → Option Value} {A₀ : Around} {base h₀ : Heap} {L : Addr} {m : Str → Option Value} {cn : Str} {cs : Scope} {ca : Addr} {ccd : Value} {cl : List (Str × Addr)} {outer : List Env} {gd : Option (List Code)} {s : Shared} {R : Result → Shared → Prop}
    {z : LexH} {lf : Addr} {fix rest : List (Addr × Obj)} {ln : Int} {tln : Tok} {npb nl : Nat}
    (B : Below A₀ base outer h₀) (F : Fr h₀ L s.heap m) (X : (Mine.hd.heap_39 w.params).In h₀) (N : News h₀ L s.heap (lexAll z lf [] nl ln tln [] npb fix rest)) (T : Top p loose mean mg mb h₀)
    (hk : cs.kind = .function) (O : LexOn w z lf fix rest base)
    (h : ∀ h' tk' t nl' tln', Fr h₀ L h' m → News h₀ L h' (lexAll z lf [] nl' ln tln' [] npb fix rest) → R (.ok (.ret (.str (Str.ofString "") t))) { s with heap := h', toks := tk' }) :
    codeAny (model Challenge.rw_pg0196_01.row.prog w) (At 250 gd (envX cn cs L ca ccd cl :: outer)) (.call (.ref 49) ⟨[.ref z.lx], []⟩) R s := by
  revert X
  k_fill
  intro X
  have CH := O.ch
  obtain ⟨lx, dl, st, ds, pb, pb2, f, h1, h2, h3, h4, g1, g2, g3, g4, g5, t1, t2, t3, t4, t5, u1, u2, u3, u4, u5, u6, u7⟩ := z
  dsimp only [lexAll, lexLed, List.cons_append, List.nil_append] at N
  k_dflt ktr_enter
  k_steps; repeat' (first | (refine unhold ?_; (first | ((with_reducible show wpAny _ _ (call (Value.builtin "iter") [Value.ref _, Value.str _ _]) _ _ _); k_dflt (refine' ci_iter ?k1zq ?k2zq ?k3zq ?_; (case k1zq => k_asm); (case k2zq => k_asm); (case k3zq => k_mem); k_whole); intro I' h' F' N' l2; (try k_lt l2); (try (revert I' h' F' N' l2; intros))) | ((with_reducible show wpAny _ _ (pyIter (Value.ref _)) (OwitAt _ _ _ _ _ _ _ _) _ _); k_here; k_dflt (refine' ci_self ?hzq ?_; (case hzq => exact News.get (by k_asm) (by k_mem)); k_whole)) | (k_dflt ((with_reducible show wpAny _ _ (call (Value.builtin _) [Value.ref _, Value.int _ _]) _ _ _); refine' kl_popAt ?Fzq ?Nzq ?fzq ?kzq ?ezq ?Uzq ?zzq ?_; (case Fzq => k_asm); (case Nzq => k_asm); (case Uzq => k_upd); (case fzq => rfl); (case kzq => exact pop0_idx _ _); (case ezq => rfl); (case zzq => exact pop0_fit (by assumption))); intro h' F' N'; (try dsimp only [List.nil_append, List.cons_append] at N'); (try (revert h' F' N'; intros))) | ((with_reducible show wpAny _ _ (truthy (Value.ref _)) _ _ _); k_dflt (refine' truthy_consK ?Nzq ?mzq ?zzq ?_; (case Nzq => k_asm); (case mzq => k_mem); (case zzq => assumption)); intro tk'; (try (revert tk'; intros)))); (try k_steps)))
  unfold Hold
  refine OwitRest.succ ?_
  (rename Fr _ _ _ _ => fF); (rename News _ _ _ _ => fN); (rename Below _ _ _ _ => fB); (rename Frag.In _ _ => fX); (rename Top _ _ _ _ _ _ => fT)
  (rename _ ∧ _ ∧ _ ∧ _ ∧ _ ∧ _ ∧ _ ∧ AllLt _ (fix ++ rest) => ll)
  (rename _ ∧ _ ∧ _ ∧ _ ∧ _ ∧ _ ∧ AllLt _ (fix ++ rest) => l1)
  have O' := O.of_news fN (Nat.ne_of_gt ll.2.1) (Nat.ne_of_gt ll.2.2.1) (Nat.ne_of_gt ll.2.2.2.1) (Nat.ne_of_gt l1.1) (Nat.ne_of_gt l1.2.1) (Nat.ne_of_gt l1.2.2.1)
  have N1 := lit_all O fN
  k_dflt (refine' lex_stop ?hf42 fB fF fX fT N1 O' ?hk ?hA ?hh ?hd ?hu ?hI ?hq ?hn)
  case hf42 => k_is
  case hA => exact rfl
  case hk => exact rfl
  case hh => exact rfl
  case hd => exact Nat.le_of_ble_eq_true rfl
  case hu => exact Nat.le_of_ble_eq_true rfl
  case hI => exact .head _
  case hq => exact .tail _ (.head _)
  case hn =>
    clear fF fN N1
    intro h' tk' nl' tln' F' N'
    have N2 := N' (lexAll ⟨lx, dl, st, ds, pb, pb2, f, h1, h2, h3, h4, g1, g2, g3, g4, g5, t1, t2, t3, t4, t5, u1, u2, u3, u4, u5, u6, u7⟩ lf [] nl' ln tln' [] npb fix rest) (fun p hp => by
      (try simp only [lexAll] at hp ⊢)
      revert p; k_extra "x:sub") (fun p hp => by
      simp only [lexAll, lexLed, List.cons_append, List.nil_append, List.mem_cons] at hp
      rcases hp with rfl | rfl | rfl | rfl | rfl | rfl | hp
      · exact Nat.ne_of_lt ll.2.1
      · exact Nat.ne_of_lt ll.2.2.1
      · exact Nat.ne_of_lt ll.2.2.2.1
      · exact Nat.ne_of_lt ll.2.2.2.2.1
      · exact Nat.ne_of_lt ll.2.2.2.2.2.1
      · exact Nat.ne_of_lt ll.2.2.2.2.2.2.1
      · exact Nat.ne_of_lt (kst_ltOf ll.2.2.2.2.2.2.2 p hp))
    clear N'
    dsimp only [lexAll, lexLed, List.cons_append, List.nil_append] at N2
    dsimp only [OwitTurn]
    k_steps
    (rename Fr h₀ _ _ _ => gF); (rename News h₀ _ _ _ => gN)
    exact h _ _ _ _ _ gF gN
theorem truthy_consK {prog : Program} {w : World} {A : Around} {E : Value → Shared → Prop} {s : Shared} {h₀ : Heap} {L l : Addr} {news : List (Addr × Obj)} {v : Value} {q : List Value} {n : Nat} {Q : Bool → Shared → Prop} (N : News h₀ L s.heap news) (hm : (l, W.listOf (v :: q).toArray n) ∈ news) (hlen : (v :: q).length ≤ 10000) (h : ∀ tk, Q true { s with toks := tk }) :
    wpAny (model prog w) A (truthy (.ref l)) Q E s := by
  refine wpAny_truthy_list (items := (v :: q).toArray) ⟨_, (N _ hm).1, rfl, n, rfl⟩ (by rw [List.size_toArray]; omega) ?_
  simpa using h _
set_option maxHeartbeats 2000000 in
def held_W11_2 : List String := "call builtin:list.pop;truthy ref".splitOn ";"
local macro_rules | `(tactic| walk_at $s:str) => if held_W11_2.contains s.getString then `(tactic| (k_here; refine hold ?_)) else Lean.Macro.throwUnsupported
theorem get_pushed {w : World} {p : Program} {loose : List Str} {mean : ExcName → Option Value} {mg mb : Str → Option Value} {A₀ : Around} {base h₀ : Heap} {L : Addr} {m : Str → Option Value} {cn : Str} {cs : Scope} {ca : Addr} {ccd : Value} {cl : List (Str × Addr)} {outer : List Env} {gd : Option (List Code)} {s : Shared} {R : Result → Shared → Prop}
    {z : LexH} {lf : Addr} {fix rest : List (Addr × Obj)} {ln : Int} {tln : Tok} {vs : List Value} {npb nl : Nat} {v : Value} {pbs : List Value}
    (B : Below A₀ base outer h₀) (F : Fr h₀ L s.heap m) (X : (Mine.hd.heap_39 w.params).In h₀) (N : News h₀ L s.heap (lexAll z lf vs nl ln tln (v :: pbs) npb fix rest)) (T : Top p loose mean mg mb h₀)
    (hk : cs.kind = .function) (O : LexOn w z lf fix rest base) (hlen : (v :: pbs).length ≤ 10000)
    (h : ∀ h' tk' npb', Fr h₀ L h' m → News h₀ L h' (lexAll z lf vs nl ln tln pbs npb' fix rest) → R (.ok (.ret v)) { s with heap := h', toks := tk' }) :
    codeAny (model Challenge.rw_pg0196_01.row.prog w) (At 250 gd (envX cn cs L ca ccd cl :: outer)) (.call (.ref 49) ⟨[.ref z.lx], []⟩) R s := by
  revert X
  k_fill
  intro X
  have CH := O.ch
  have off := O.off
  obtain ⟨lx, dl, st, ds, pb, pb2, f, h1, h2, h3, h4, g1, g2, g3, g4, g5, t1, t2, t3, t4, t5, u1, u2, u3, u4, u5, u6, u7⟩ := z
  obtain ⟨a1, a2, a3, a4, a5, b1, b3, b4, b5, c1, c3, c4, r1, r2, r3⟩ := off
  dsimp only [lexAll, lexLed, List.cons_append, List.nil_append] at N
  dsimp only at a1 a2 a3 a4 a5 b1 b3 b4 b5 c1 c3 c4 r1 r2 r3
  k_dflt ktr_enter
  k_steps; repeat' (first | (refine unhold ?_; (first | ((with_reducible show wpAny _ _ (call (Value.builtin "iter") [Value.ref _, Value.str _ _]) _ _ _); k_dflt (refine' ci_iter ?k1zq ?k2zq ?k3zq ?_; (case k1zq => k_asm); (case k2zq => k_asm); (case k3zq => k_mem); k_whole); intro I' h' F' N' l2; (try k_lt l2); (try (revert I' h' F' N' l2; intros))) | ((with_reducible show wpAny _ _ (pyIter (Value.ref _)) (OwitAt _ _ _ _ _ _ _ _) _ _); k_here; k_dflt (refine' ci_self ?hzq ?_; (case hzq => exact News.get (by k_asm) (by k_mem)); k_whole)) | (k_dflt ((with_reducible show wpAny _ _ (call (Value.builtin _) [Value.ref _, Value.int _ _]) _ _ _); refine' kl_popAt ?Fzq ?Nzq ?fzq ?kzq ?ezq ?Uzq ?zzq ?_; (case Fzq => k_asm); (case Nzq => k_asm); (case Uzq => k_upd); (case fzq => rfl); (case kzq => exact pop0_idx _ _); (case ezq => rfl); (case zzq => exact pop0_fit (by assumption))); intro h' F' N'; (try dsimp only [List.nil_append, List.cons_append] at N'); (try (revert h' F' N'; intros))) | ((with_reducible show wpAny _ _ (truthy (Value.ref _)) _ _ _); k_dflt (refine' truthy_consK ?Nzq ?mzq ?zzq ?_; (case Nzq => k_asm); (case mzq => k_mem); (case zzq => assumption)); intro tk'; (try (revert tk'; intros)))); (try k_steps)))
  (rename Fr h₀ _ _ _ => gF); (rename News h₀ _ _ _ => gN)
  exact h _ _ _ gF gN
end Mine
end
section
open PySem PySem.W PyProof.Rows PySem.Spec PySem.Calls
set_option maxRecDepth 100000
namespace Mine
section
variable {prog : Program} {w : World} {A : Around} {E : Value → Shared → Prop} {s : Shared} {h₀ : Heap} {L : Addr} {m : Str → Option Value} {env : Env} {K : Type} [DecidableEq K] {knd : KeyKind prog w K}

/-- the ledger names the dict d -/
noncomputable def SrcD (knd : KeyKind prog w K) (d : Addr) (kvs : List (K × Value)) (ep : Nat) (nw : List (Addr × Obj)) : Prop := ∃ o, (d, o) ∈ nw ∧ ∀ h : Heap, h.get? d = some o → h.DictAt knd d kvs ep
theorem dict_st {d I : Addr} {kvs : List (K × Value)} {ep n : Nat} : ∀ i (h h' : Heap) (o : Obj) (nw : List (Addr × Obj)), (h.IsKeyIter I d i n ep ∧ h.DictAt knd d kvs ep) → h.get? I = some o → h'.get? I = some o → (∀ b o, h₀.get? b = some o → h'.get? b = some o) → News h₀ L h' nw → SrcD knd d kvs ep nw → (h'.IsKeyIter I d i n ep ∧ h'.DictAt knd d kvs ep) :=
  fun i h h' o nw st e e' _ N S => ⟨by obtain ⟨o', q, r⟩ := st.1; rw [e] at q; cases q; exact ⟨o, e', r⟩, by obtain ⟨o2, hm, r⟩ := S; exact r h' (N _ hm).1⟩

/-- a list comprehension with one test over a dict of the ledger: the turns leave the ledger as it is -/
theorem rest_const {ct elt : Expr} {x : Str} {scope : Scope} {cl : List (Str × Addr)} {S : List (Addr × Obj) → Prop} {P : Nat → Value → Prop} {Fin : List Value → List (Addr × Obj) → Prop} {news : List (Addr × Obj)} {n : Nat} {ks : List K} (pz : K → Bool) (V : K → Value → Prop)
    (hn : ks.length = n) (hP : ∀ i v, i < n → P i v → ∃ k, ks[i]? = some k ∧ knd.is k v = true) (hS : S news)
    (turn : ∀ k v I oI C oC D m₂ ys h tk (E' : Value → Shared → Prop), k ∈ ks → knd.is k v = true → LCg.NsObj oC m₂ → m₂ x = some v → Fr h₀ L h m → News h₀ L h ((I, oI) :: (C, oC) :: (D, LCg.lst ys) :: news) →
      wpAny (model prog w) A (isTrue ct (compEnvC scope cl C env) (eval ct (compEnvC scope cl C env))) (fun ok s' => ok = pz k ∧ ∃ h' tk', s' = { s with heap := h', toks := tk' } ∧ Fr h₀ L h' m ∧ News h₀ L h' ((I, oI) :: (C, oC) :: (D, LCg.lst ys) :: news)) E' { s with heap := h, toks := tk })
    (el : ∀ k v I oI C oC D m₂ ys h tk (E' : Value → Shared → Prop), k ∈ ks → knd.is k v = true → LCg.NsObj oC m₂ → m₂ x = some v → Fr h₀ L h m → News h₀ L h ((I, oI) :: (C, oC) :: (D, LCg.lst ys) :: news) →
      wpAny (model prog w) A (eval elt (compEnvC scope cl C env)) (fun y s' => V k y ∧ ∃ h' tk', s' = { s with heap := h', toks := tk' } ∧ Fr h₀ L h' m ∧ News h₀ L h' ((I, oI) :: (C, oC) :: (D, LCg.lst ys) :: news)) E' { s with heap := h, toks := tk })
    (fin : ∀ ys, Paired V (ks.filter pz) ys → Fin ys news) : LCt.CompRestT prog w A h₀ L m env ct elt x scope cl s S P Fin n 0 [] news := by
  have key : ∀ (j i : Nat) (ys : List Value), i + j = n → Paired V ((ks.take i).filter pz) ys → LCt.CompRestT prog w A h₀ L m env ct elt x scope cl s S P Fin j i ys news := by
    intro j
    induction j with
    | zero =>
      intro i ys hi hy
      have e : i = ks.length := by omega
      subst e
      rw [List.take_length] at hy
      exact LCt.CompRestT.zero (fin ys hy)
    | succ j ih =>
      intro i ys hi hy
      refine LCt.CompRestT.succ ?_
      intro v I oI C oC D m₂ h tk E' hv hC hx F N off ne
      obtain ⟨k, hk, hkv⟩ := hP i v (by omega) hv
      have hkm := List.mem_of_getElem? hk
      refine wpAny_mono (turn k v I oI C oC D m₂ ys h tk E' hkm hkv hC hx F N) (fun ok s₂ hq => ?_) fun _ _ e => e
      obtain ⟨rfl, h', tk', rfl, F', N'⟩ := hq
      cases hpz : pz k with
      | true =>
        simp only [if_true]
        refine wpAny_mono (el k v I oI C oC D m₂ ys h' tk' E' hkm hkv hC hx F' N') (fun y s₃ hq => ?_) fun _ _ e => e
        obtain ⟨hy', h'', tk'', rfl, F'', N''⟩ := hq
        refine ⟨h'', tk'', news, rfl, F'', N'', off, hS, ih (i + 1) _ (by omega) ?_⟩
        rw [List.take_add_one, hk]
        simp only [Option.toList, List.filter_append]
        rw [show [k].filter pz = [k] by simp [hpz]]
        exact hy.snoc hy'
      | false =>
        simp only [Bool.false_eq_true, if_false]
        refine ⟨h', tk', news, rfl, F', N', off, hS, ih (i + 1) _ (by omega) ?_⟩
        rw [List.take_add_one, hk]
        simp only [Option.toList, List.filter_append]
        rw [show [k].filter pz = [] by simp [hpz], List.append_nil]
        exact hy
  exact key n 0 [] (by omega) (by simp only [List.take_zero, List.filter_nil]; exact .nil)

inductive LcD.Src (K : Type) [DecidableEq K] (prog : Program) (w : World) (A : Around) (h₀ : Heap) (L : Addr) (m : Str → Option Value) (env : Env) (knd : KeyKind prog w K) (ct : Expr) (elt : Expr) (x : Str) (scope : Scope) (cl : List (Str × Addr)) (Q : Value → Shared → Prop) (xv : Value) (s₁ : Shared) : Prop
  | mk (d : Addr) (o : Obj) (news : List (Addr × Obj)) (kvs : List (K × Value)) (pz : K→Bool) (V : K→Value→Prop)
    (h0 : xv = .ref d)
    (h1 : A.handled = none)
    (h2 : (d == sysModules) = false)
    (h3 : Fr h₀ L s₁.heap m)
    (h4 : News h₀ L s₁.heap news)
    (h5 : (d, o) ∈ news)
    (h6 : o.IsDictOf knd kvs)
    (h7 : kvs.length ≤ sizeLine)
    (h8 : (∀ k v I oI C oC D m₂ ys h tk (E' : Value → Shared → Prop), k ∈ kvs.map Prod.fst → knd.is k v = true → LCg.NsObj oC m₂ → m₂ x = some v → Fr h₀ L h m → News h₀ L h ((I, oI) :: (C, oC) :: (D, LCg.lst ys) :: news) →
        wpAny (model prog w) A (isTrue ct (compEnvC scope cl C env) (eval ct (compEnvC scope cl C env))) (fun ok s' => ok = pz k ∧ ∃ h' tk', s' = { s₁ with heap := h', toks := tk' } ∧ Fr h₀ L h' m ∧ News h₀ L h' ((I, oI) :: (C, oC) :: (D, LCg.lst ys) :: news)) E' { s₁ with heap := h, toks := tk }))
    (h9 : (∀ k v I oI C oC D m₂ ys h tk (E' : Value → Shared → Prop), k ∈ kvs.map Prod.fst → knd.is k v = true → LCg.NsObj oC m₂ → m₂ x = some v → Fr h₀ L h m → News h₀ L h ((I, oI) :: (C, oC) :: (D, LCg.lst ys) :: news) →
        wpAny (model prog w) A (eval elt (compEnvC scope cl C env)) (fun y s' => V k y ∧ ∃ h' tk', s' = { s₁ with heap := h', toks := tk' } ∧ Fr h₀ L h' m ∧ News h₀ L h' ((I, oI) :: (C, oC) :: (D, LCg.lst ys) :: news)) E' { s₁ with heap := h, toks := tk }))
    (h10 : (∀ D h' tk ys, Fr h₀ L h' m → News h₀ L h' ((D, LCg.lst ys) :: news) → Paired V ((kvs.map Prod.fst).filter pz) ys → (∀ p ∈ news, p.1 ≠ D) → Q (.ref D) { s₁ with heap := h', toks := tk }))
    : LcD.Src K prog w A h₀ L m env knd ct elt x scope cl Q xv s₁
theorem listComp_dict {ct elt iter : Expr} {x : Str} {px : Pos} {scope : Scope} {cl : List (Str × Addr)} {pos : Pos} {Q : Value → Shared → Prop}
    (hclos : closureFor scope env = pure cl) (hcell : ∀ y ∈ scope.names, y.2 ≠ .cell) (hkind : scope.kind = .function)
    (hnames : ∀ y ∈ scope.names, y.2 = .local → scope.names.lookup y.1 = some .local) (hx : scope.names.lookup x = some .local)
    (h : wpAny (model prog w) A (eval iter env) (LcD.Src K prog w A h₀ L m env knd ct elt x scope cl Q) E s)
    (hs : ∀ x, foldedSetIterable iter env x = pure x := by intro _; rfl) :
    wpAny (model prog w) A (eval (.ListComp elt [⟨.Name x px, iter, [ct], 0⟩] scope pos) env) Q E s := by
  rw [eval_ListComp]
  refine wpAny_comprehension_free (use := none) rfl hs hclos hkind hnames (wpAny_mono h (fun xv s₁ h₁ => ?_) fun _ _ e => e)
  obtain ⟨d, o, news, kvs, pz, V, rfl, hh, hd, F, N, hm, hdo, hsz, turn, el, fin⟩ := h₁
  have hdd : s₁.heap.DictOf knd d kvs := Heap.dictOf_iff.mpr ⟨o, (N _ hm).1, hdo⟩
  obtain ⟨ep, hat⟩ := hdd.dictAt
  refine wpAny_pyIter_dict hd hat ?_
  have hlt : d < s₁.heap.objs.size := Heap.lt_size (N _ hm).1
  have up : ∀ b o, s₁.heap.get? b = some o → (s₁.heap.push { cls := .type "dict_keyiterator", data := .fields #[.ref d, .int 0 0, .int kvs.length 0, .int ep 0] }).get? b = some o := fun b o e => Heap.get?_push_of_some _ e
  have hS : SrcD knd d kvs ep news := ⟨o, hm, fun h' e => by
    obtain ⟨o', es, q, r⟩ := hat
    rw [(N _ hm).1] at q; cases q
    exact ⟨_, es, e, r⟩⟩
  refine LCt.block_T (Fin := fun ys nw => nw = news ∧ Paired V ((kvs.map Prod.fst).filter pz) ys) (S := SrcD knd d kvs ep) (Walks.dictKeys (knd := knd) hh s₁.heap.objs.size d (Nat.ne_of_lt hlt) kvs ep) hsz (fun i h st => by obtain ⟨o, e, _⟩ := st.1; exact ⟨o, e⟩) dict_st hcell hkind hx
    ⟨⟨_, Heap.get?_push_size _ rfl, rfl, rfl⟩, hat.push _⟩ (fun b hb => ?_)
    (F.keeps up) (N.grown up) (Nat.ne_of_lt F.ns.lt) (next_is_new F) (fun p hp => Nat.ne_of_lt (Heap.lt_size (N p hp).1)) hS ?_ ?_
  · show b < (s₁.heap.push _).objs.size
    rw [Heap.size_push]
    rcases List.mem_cons.mp hb with rfl | hb
    · exact Nat.lt_succ_self _
    · rw [List.mem_singleton.mp hb]; exact Nat.lt_succ_of_lt hlt
  · refine rest_const (knd := knd) (ks := kvs.map Prod.fst) pz V (by simp) (fun i v hi hv => ?_) hS (fun k v I oI C oC D m₂ ys h tk E' => turn k v I oI C oC D m₂ ys h tk E') (fun k v I oI C oC D m₂ ys h tk E' => el k v I oI C oC D m₂ ys h tk E') fun ys hy => ⟨rfl, hy⟩
    obtain ⟨k, x', hx', hk⟩ := hv
    exact ⟨k, by simp [hx'], hk⟩
  · intro D C h tk m' ys news' F' N' o1 hn hC₀ hD₀ hCL hDL hCD offC fin'
    obtain ⟨rfl, hy⟩ := fin'
    have off1 : ∀ (l : List (Addr × Obj)), LCg.Off1 D l → ∀ p ∈ l, p.1 ≠ D := by
      intro l
      induction l with
      | nil => intro _ p hp; cases hp
      | cons a r ih =>
        intro hl p hp
        rcases List.mem_cons.mp hp with rfl | hp
        · exact hl.1
        · exact ih hl.2 p hp
    refine ⟨m', hn, fun h'' hs'' => fin D h'' tk ys (F'.change hs'' hCL hC₀) (fun p hp => ?_) hy (off1 _ o1)⟩
    refine ⟨hs''.extBut _ _ ?_ (N' p hp).1, (N' p hp).2⟩
    rcases List.mem_cons.mp hp with rfl | hp
    · exact Ne.symm hCD
    · exact offC p hp
end
end Mine
end
section
open PySem PySem.W PyProof.Rows PySem.Spec PySem.Calls
set_option maxRecDepth 100000
namespace Mine
theorem envOne {M : Model} {A : Around} {E : Value → Shared → Prop} {s : Shared} {scope : Scope} {g : Addr} {cl : List (Str × Addr)} {q x : Str} {env : Env} {Q : Env → Shared → Prop}
    (hcf : ∀ n, cellsFrom n scope.names cl = (x, n) :: cl) (hpc : ∀ h : Heap, pushCells h scope.names = h.push { cls := .type "cell", data := .cell none })
    (h : Q { scope := scope, locals := s.heap.objs.size, globals := g, cells := (x, s.heap.objs.size + 1) :: cl, qual := q, func := none, code := env.code, frame := env.frame, builtins := env.builtins } { s with heap := (s.heap.push { cls := .type "dict", data := .dict #[] }).push { cls := .type "cell", data := .cell none } }) :
    wpAny M A (newFunctionEnv scope g cl [] q none .none (some env)) Q E s := by
  simp only [newFunctionEnv, Option.isSome_some, if_true]
  refine wpAny_bind (wpAny_alloc ?_)
  refine wpAny_bind (wpAny_layCells _ (fun name kind cells => by cases hkc : kind == NameKind.cell <;> simp [hkc]) _ _ _ _ ?_)
  rw [show ({ s with heap := s.heap.push { cls := .type "dict", data := .dict #[] } } : Shared).heap.objs.size = s.heap.objs.size + 1 from Heap.size_push .., hcf, hpc]
  dsimp only
  rw [List.forIn_nil]
  exact wpAny_bind (wpAny_pure (wpAny_pure h))
section
variable {prog : Program} {w : World} {A : Around} {E : Value → Shared → Prop} {s : Shared} {h₀ : Heap} {L : Addr} {m : Str → Option Value} {env : Env} {K : Type} [DecidableEq K] {knd : KeyKind prog w K}
end
inductive DcC.Src (K : Type) [DecidableEq K] (prog : Program) (w : World) (A : Around) (h₀ : Heap) (L : Addr) (m : Str → Option Value) (env : Env) (knd : KeyKind prog w K) (kx : Expr) (vx : Expr) (x : Str) (scope : Scope) (cl : List (Str × Addr)) (Q : Value → Shared → Prop) (xv : Value) (s₁ : Shared) : Prop
  | mk (d : Addr) (o : Obj) (news : List (Addr × Obj)) (kvs : List (K × Value)) (V : K → Value → Prop)
    (h0 : xv = .ref d)
    (h1 : A.handled = none)
    (h2 : (d == sysModules) = false)
    (h3 : Fr h₀ L s₁.heap m)
    (h4 : News h₀ L s₁.heap news)
    (h5 : (d, o) ∈ news)
    (h6 : o.IsDictOf knd kvs)
    (h7 : kvs.length ≤ sizeLine)
    (h8 : (kvs.map Prod.fst).Nodup)
    (h9 : (∀ k v I oI C oC c oc D oD h tk (E' : Value → Shared → Prop), k ∈ kvs.map Prod.fst → knd.is k v = true → oc.data = .cell (some v) → Fr h₀ L h m → News h₀ L h ((I, oI) :: (C, oC) :: (c, oc) :: (D, oD) :: news) →
        wpAny (model prog w) A (eval kx (compEnvC scope ((x, c) :: cl) C env)) (fun kv s' => knd.is k kv = true ∧ ∃ h' tk', s' = { s₁ with heap := h', toks := tk' } ∧ Fr h₀ L h' m ∧ News h₀ L h' ((I, oI) :: (C, oC) :: (c, oc) :: (D, oD) :: news)) E' { s₁ with heap := h, toks := tk }))
    (h10 : (∀ k v I oI C oC c oc D oD h tk (E' : Value → Shared → Prop), k ∈ kvs.map Prod.fst → knd.is k v = true → oc.data = .cell (some v) → Fr h₀ L h m → News h₀ L h ((I, oI) :: (C, oC) :: (c, oc) :: (D, oD) :: news) →
        wpAny (model prog w) A (eval vx (compEnvC scope ((x, c) :: cl) C env)) (fun y s' => V k y ∧ ∃ h' tk', s' = { s₁ with heap := h', toks := tk' } ∧ Fr h₀ L h' m ∧ News h₀ L h' ((I, oI) :: (C, oC) :: (c, oc) :: (D, oD) :: news)) E' { s₁ with heap := h, toks := tk }))
    (h11 : (∀ D oD h' tk ovs, Fr h₀ L h' m → News h₀ L h' ((D, oD) :: news) → oD.IsDictOf knd ovs → ovs.map Prod.fst = kvs.map Prod.fst → (∀ p ∈ ovs, V p.1 p.2) → (∀ p ∈ news, p.1 < D) → Q (.ref D) { s₁ with heap := h', toks := tk }))
    : DcC.Src K prog w A h₀ L m env knd kx vx x scope cl Q xv s₁
namespace K_dictComp_cell
noncomputable def cut : (@Subtype Prop fun P => P → ∀ {prog : Program} {w : World} {A : Around} {E : Value → Shared → Prop} {s : Shared} {h₀ : Heap} {L : Addr} {m : Str → Option Value} {env : Env} {K : Type} [DecidableEq K] {knd : KeyKind prog w K} {kx vx iter : Expr} {x : Str} {px : Pos} {scope : Scope} {cl : List (Str × Addr)} {pos : Pos} {Q : Value → Shared → Prop} (hclos : closureFor scope env = pure cl) (hkind : scope.kind = .function) (hnames : ∀ y ∈ scope.names, y.2 = .local → scope.names.lookup y.1 = some .local) (hcf : ∀ n, cellsFrom n scope.names cl = (x, n) :: cl) (hpc : ∀ h : Heap, pushCells h scope.names = h.push { cls := .type "cell", data := .cell none }) (hx : (relabel scope env).names.lookup x = some .cell) (h : wpAny (model prog w) A (eval iter env) (DcC.Src K prog w A h₀ L m env knd kx vx x scope cl Q) E s) (hs : ∀ x, foldedSetIterable iter env x = pure x), wpAny (model prog w) A (eval (.DictComp kx vx [⟨.Name x px, iter, [], 0⟩] scope pos) env) Q E s) := by
  refine' mkCut fun hole => ?_
  rotate_left
  focus
  intro prog w A E s h₀ L m env K _ knd kx vx iter x px scope cl pos Q hclos hkind hnames hcf hpc hx h hs
  rw [arm_eval_DictComp]
  refine wpAny_comprehension_free (use := none) rfl hs hclos hkind hnames (wpAny_mono h (fun xv s₁ h₁ => ?_) fun _ _ e => e)
  obtain ⟨d, o, news, kvs, V, rfl, hh, hd, F, N, hm, hdo, hsz, hnd, turn, el, fin⟩ := h₁
  have hdd : s₁.heap.DictOf knd d kvs := Heap.dictOf_iff.mpr ⟨o, (N _ hm).1, hdo⟩
  obtain ⟨ep, hat⟩ := hdd.dictAt
  refine wpAny_pyIter_dict hd hat ?_
  refine wpAny_newObj_type (envOne hcf hpc ?_)
  dsimp only
  have hlt : d < s₁.heap.objs.size := Heap.lt_size (N _ hm).1
  generalize hI : s₁.heap.objs.size = I at *
  generalize hH1 : s₁.heap.push { cls := .type "dict_keyiterator", data := .fields #[.ref d, .int 0 0, .int kvs.length 0, .int ep 0] } = H1
  have sz1 : H1.objs.size = I + 1 := by rw [← hH1, Heap.size_push, hI]
  generalize hH2 : H1.push { cls := .type "dict", dict := none, data := .dict #[] } = H2
  have sz2 : H2.objs.size = I + 1 + 1 := by rw [← hH2, Heap.size_push, sz1]
  generalize hH3 : H2.push { cls := .type "dict", data := .dict #[] } = H3
  have sz3 : H3.objs.size = I + 1 + 1 + 1 := by rw [← hH3, Heap.size_push, sz2]
  generalize hH4 : H3.push { cls := .type "cell", data := .cell none } = H4
  have up1 : ∀ b o, s₁.heap.get? b = some o → H1.get? b = some o := fun b o e => by rw [← hH1]; exact Heap.get?_push_of_some _ e
  have up2 : ∀ b o, H1.get? b = some o → H2.get? b = some o := fun b o e => by rw [← hH2]; exact Heap.get?_push_of_some _ e
  have up3 : ∀ b o, H2.get? b = some o → H3.get? b = some o := fun b o e => by rw [← hH3]; exact Heap.get?_push_of_some _ e
  have up4 : ∀ b o, H3.get? b = some o → H4.get? b = some o := fun b o e => by rw [← hH4]; exact Heap.get?_push_of_some _ e
  have up : ∀ b o, s₁.heap.get? b = some o → H4.get? b = some o := fun b o e => up4 _ _ (up3 _ _ (up2 _ _ (up1 _ _ e)))
  have gI : H4.get? I = some { cls := .type "dict_keyiterator", data := .fields #[.ref d, .int 0 0, .int kvs.length 0, .int ep 0] } := up4 _ _ (up3 _ _ (up2 _ _ (by rw [← hH1, ← hI]; exact Heap.get?_push_size _ rfl)))
  have gD : H4.get? (I + 1) = some { cls := .type "dict", dict := none, data := .dict #[] } := up4 _ _ (up3 _ _ (by rw [← hH2, ← sz1]; exact Heap.get?_push_size _ rfl))
  have gC : H4.get? (I + 1 + 1) = some { cls := .type "dict", data := .dict #[] } := up4 _ _ (by rw [← hH3, ← sz2]; exact Heap.get?_push_size _ rfl)
  have gc : H4.get? (I + 1 + 1 + 1) = some { cls := .type "cell", data := .cell none } := by rw [← hH4, ← sz3]; exact Heap.get?_push_size _ rfl
  rw [sz1, sz2]
  rename_i v_1
  revert hclos hkind hnames hcf hpc hx h hs hh hd F N hm hdo hsz hnd turn el fin hdd hat hI hlt hH1 sz1 hH2 sz2 hH3 sz3 hH4 up1 up2 up3 up4 up gI gD gC gc
  revert K v_1 knd kvs V
  revert prog w A E s h₀ L m env kx vx iter x px scope cl pos Q s₁ d o news ep I H1 H2 H3 H4
  exact no_implicit_lambda% hole.get
noncomputable section
noncomputable def Pcut : (Program) → (World) → (Around) → (Value → Shared → Prop) → (Shared) → (Heap) → (Addr) → (Str → Option Value) → (Env) → (Expr) → (Expr) → (Expr) → (Str) → (Pos) → (Scope) → (List (Str × Addr)) → (Pos) → (Value → Shared → Prop) → (Shared) → (Addr) → (Obj) → (List (Addr × Obj)) → (Nat) → (Nat) → (Heap) → (Heap) → (Heap) → (Heap) → Prop := (@id (∀ {Rcut : (Program) → (World) → (Around) → (Value → Shared → Prop) → (Shared) → (Heap) → (Addr) → (Str → Option Value) → (Env) → (Expr) → (Expr) → (Expr) → (Str) → (Pos) → (Scope) → (List (Str × Addr)) → (Pos) → (Value → Shared → Prop) → (Shared) → (Addr) → (Obj) → (List (Addr × Obj)) → (Nat) → (Nat) → (Heap) → (Heap) → (Heap) → (Heap) → Prop}, cut.1 = (∀ prog w A E s h₀ L m env kx vx iter x px scope cl pos Q s₁ d o news ep I H1 H2 H3 H4, Rcut prog w A E s h₀ L m env kx vx iter x px scope cl pos Q s₁ d o news ep I H1 H2 H3 H4) → _) fun {Rcut} _ => Rcut) rfl
noncomputable def Tcut : Type := (Program × World × Around × (Value → Shared → Prop) × Shared × Heap) × (Addr × (Str → Option Value) × Env × Expr × Expr × Expr) × (Str × Pos × Scope × (List (Str × Addr)) × Pos × (Value → Shared → Prop)) × (Shared × Addr × Obj × (List (Addr × Obj)) × Nat × Nat) × (Heap × Heap × Heap × Heap)
noncomputable def Qcut (x : Tcut) : Prop := Pcut x.1.1 x.1.2.1 x.1.2.2.1 x.1.2.2.2.1 x.1.2.2.2.2.1 x.1.2.2.2.2.2 x.2.1.1 x.2.1.2.1 x.2.1.2.2.1 x.2.1.2.2.2.1 x.2.1.2.2.2.2.1 x.2.1.2.2.2.2.2 x.2.2.1.1 x.2.2.1.2.1 x.2.2.1.2.2.1 x.2.2.1.2.2.2.1 x.2.2.1.2.2.2.2.1 x.2.2.1.2.2.2.2.2 x.2.2.2.1.1 x.2.2.2.1.2.1 x.2.2.2.1.2.2.1 x.2.2.2.1.2.2.2.1 x.2.2.2.1.2.2.2.2.1 x.2.2.2.1.2.2.2.2.2 x.2.2.2.2.1 x.2.2.2.2.2.1 x.2.2.2.2.2.2.1 x.2.2.2.2.2.2.2
theorem ex_cut : ∃ x : Tcut, Qcut x → ∀ y, Qcut y := by
  haveI := neW; haveI := neA; haveI := neS
  haveI : Nonempty Tcut := by unfold Tcut; set_option synthInstance.maxSize 2000 in infer_instance
  exact henk1 Qcut
noncomputable def Ccut : Tcut := Classical.choose ex_cut
@[irreducible] noncomputable def prog : Program := Ccut.1.1
@[irreducible] noncomputable def w : World := Ccut.1.2.1
@[irreducible] noncomputable def A : Around := Ccut.1.2.2.1
@[irreducible] noncomputable def E : Value → Shared → Prop := Ccut.1.2.2.2.1
@[irreducible] noncomputable def s : Shared := Ccut.1.2.2.2.2.1
@[irreducible] noncomputable def h₀ : Heap := Ccut.1.2.2.2.2.2
@[irreducible] noncomputable def L : Addr := Ccut.2.1.1
@[irreducible] noncomputable def m : Str → Option Value := Ccut.2.1.2.1
@[irreducible] noncomputable def env : Env := Ccut.2.1.2.2.1
@[irreducible] noncomputable def kx : Expr := Ccut.2.1.2.2.2.1
@[irreducible] noncomputable def vx : Expr := Ccut.2.1.2.2.2.2.1
@[irreducible] noncomputable def iter : Expr := Ccut.2.1.2.2.2.2.2
@[irreducible] noncomputable def x : Str := Ccut.2.2.1.1
@[irreducible] noncomputable def px : Pos := Ccut.2.2.1.2.1
@[irreducible] noncomputable def scope : Scope := Ccut.2.2.1.2.2.1
@[irreducible] noncomputable def cl : List (Str × Addr) := Ccut.2.2.1.2.2.2.1
@[irreducible] noncomputable def pos : Pos := Ccut.2.2.1.2.2.2.2.1
@[irreducible] noncomputable def Q : Value → Shared → Prop := Ccut.2.2.1.2.2.2.2.2
@[irreducible] noncomputable def s₁ : Shared := Ccut.2.2.2.1.1
@[irreducible] noncomputable def d : Addr := Ccut.2.2.2.1.2.1
@[irreducible] noncomputable def o : Obj := Ccut.2.2.2.1.2.2.1
@[irreducible] noncomputable def news : List (Addr × Obj) := Ccut.2.2.2.1.2.2.2.1
@[irreducible] noncomputable def ep : Nat := Ccut.2.2.2.1.2.2.2.2.1
@[irreducible] noncomputable def I : Nat := Ccut.2.2.2.1.2.2.2.2.2
@[irreducible] noncomputable def H1 : Heap := Ccut.2.2.2.2.1
@[irreducible] noncomputable def H2 : Heap := Ccut.2.2.2.2.2.1
@[irreducible] noncomputable def H3 : Heap := Ccut.2.2.2.2.2.2.1
@[irreducible] noncomputable def H4 : Heap := Ccut.2.2.2.2.2.2.2
end
theorem at_cut : Pcut prog w A E s h₀ L m env kx vx iter x px scope cl pos Q s₁ d o news ep I H1 H2 H3 H4 := by
  intro K v_1 knd kvs V hclos hkind hnames hcf hpc hx h hs hh hd F N hm hdo hsz hnd turn el fin hdd hat hI hlt hH1 sz1 hH2 sz2 hH3 sz3 hH4 up1 up2 up3 up4 up gI gD gC gc
  have hLlt : @LT.lt Nat _ L I := hI ▸ F.ns.lt
  have hltI : @LT.lt Nat _ d I := hlt
  have fresh₀ : ∀ a : Nat, I ≤ a → h₀.get? a = none := fun a ha => by
    cases e : h₀.get? a with
    | none => rfl
    | some o' =>
      have := Heap.lt_size (F.keep a o' e)
      rw [hI] at this
      exact absurd this (Nat.not_lt.mpr ha)
  have nlt : ∀ p ∈ news, @LT.lt Nat _ p.1 I := fun p hp => hI ▸ Heap.lt_size (N p hp).1
  have W := Walks.dictKeys (prog := prog) (w := w) (knd := knd) hh I d (Nat.ne_of_lt hlt) kvs ep
  have hD0 : H4.DictOf knd (I + 1) [] := by
    rw [← sz1]
    refine Heap.DictOf.at (h := H2) ?_ fun o e => up4 _ _ (up3 _ _ e)
    rw [← hH2]
    exact Heap.DictOf.new (knd := knd) H1
  obtain ⟨oD0, eD0, iD0⟩ := Heap.dictOf_iff.mp hD0
  have st0 : H4.IsKeyIter I d 0 kvs.length ep ∧ H4.DictAt knd d kvs ep := ⟨⟨_, gI, rfl, rfl⟩, hat.at' fun o e => up _ _ e⟩
  have N0 : News h₀ L H4 ((I + 1 + 1, { cls := .type "dict", data := .dict #[] }) :: (I + 1 + 1 + 1, { cls := .type "cell", data := .cell none }) :: (I + 1, oD0) :: news) := fun p hp => by
    rcases List.mem_cons.mp hp with rfl | hp
    · exact ⟨gC, Nat.ne_of_gt (by show @LT.lt Nat _ L _; k_extra "n:c"), fresh₀ _ (by show @LE.le Nat _ I _; k_extra "n:c")⟩
    rcases List.mem_cons.mp hp with rfl | hp
    · exact ⟨gc, Nat.ne_of_gt (by show @LT.lt Nat _ L _; k_extra "n:c"), fresh₀ _ (by show @LE.le Nat _ I _; k_extra "n:c")⟩
    rcases List.mem_cons.mp hp with rfl | hp
    · exact ⟨eD0, Nat.ne_of_gt (by show @LT.lt Nat _ L _; k_extra "n:c"), fresh₀ _ (by show @LE.le Nat _ I _; k_extra "n:c")⟩
    · exact ⟨up _ _ (N p hp).1, (N p hp).2⟩
  have loop : ∀ s₃ : Shared, s₃ = { s₁ with heap := H4 } →
      codeAny (model prog w) A (.compLoop (.DictComp kx vx [⟨.Name x px, iter, [], 0⟩] scope pos) 0 (.ref I) (.ref (I + 1)) (compEnvC scope ((x, I + 1 + 1 + 1) :: cl) (I + 1 + 1) env))
        (compPost (model prog w) A E none Q (.ref (I + 1)) (I + 1 + 1)) s₃ := by
    rintro s₃ rfl
    refine codeAny_compLoop_testsD
      (fun k s' => ∃ h' tk i oc ov oD ovs, s' = { s₁ with heap := h', toks := tk } ∧ i ≤ kvs.length ∧ k = kvs.length + 1 - i ∧ (h'.IsKeyIter I d i kvs.length ep ∧ h'.DictAt knd d kvs ep) ∧ Fr h₀ L h' m ∧
        News h₀ L h' ((I + 1 + 1, { cls := .type "dict", data := .dict #[] }) :: (I + 1 + 1 + 1, oc) :: (I + 1, oD) :: news) ∧ oc.data = .cell ov ∧ oD.IsDictOf knd ovs ∧ ovs.map Prod.fst = (kvs.map Prod.fst).take i ∧ ∀ p ∈ ovs, V p.1 p.2) ?_ (kvs.length + 1)
      ⟨H4, _, 0, _, _, oD0, [], rfl, Nat.zero_le _, rfl, st0, F.keeps up, N0, rfl, iD0, by simp, by simp⟩
    rintro k s' ⟨h', tk, i, oc, ov, oD, ovs, rfl, hi, rfl, st, F', N', hoc, hoD, hks, hV⟩
    have offI : ∀ {oc oD : Obj}, ∀ p ∈ ((I + 1 + 1, { cls := .type "dict", data := .dict #[] }) :: (I + 1 + 1 + 1, oc) :: (I + 1, oD) :: news : List (Addr × Obj)), p.1 ≠ I := fun p hp => by
      rcases List.mem_cons.mp hp with rfl | hp
      · exact Nat.ne_of_gt (by show @LT.lt Nat _ I _; k_extra "n:c")
      rcases List.mem_cons.mp hp with rfl | hp
      · exact Nat.ne_of_gt (by show @LT.lt Nat _ I _; k_extra "n:c")
      rcases List.mem_cons.mp hp with rfl | hp
      · exact Nat.ne_of_gt (by show @LT.lt Nat _ I _; k_extra "n:c")
      · exact Nat.ne_of_lt (nlt p hp)
    by_cases hlt' : i < kvs.length
    · refine W.item i _ _ _ hlt' st fun v h₂ tk₂ hPv st₂ hk₂ => ?_
      obtain ⟨kk, xv, hkx, hkv⟩ := hPv
      have F₂ : Fr h₀ L h₂ m := LCg.fr_but F' hk₂ (Nat.ne_of_lt hLlt) (fresh₀ _ (Nat.le_refl _))
      have N₂ := LCg.news_but N' hk₂ offI
      have hcc : h₂.IsCell (I + 1 + 1 + 1) ov := ⟨oc, (N₂ _ (.tail _ (.head _))).1, hoc⟩
      refine wpAny_assign_Name (wpAny_storeName_cell hkind hx (by simp [compEnvC]) hcc fun h₃ hc₃ hs₃ => ?_)
      obtain ⟨oc₃, ec₃, dc₃⟩ := hc₃
      have F₃ : Fr h₀ L h₃ m := F₂.change hs₃ (Nat.ne_of_gt (by show @LT.lt Nat _ L _; k_extra "n:c")) (fresh₀ _ (by show @LE.le Nat _ I _; k_extra "n:c"))
      have st₃ : h₃.IsKeyIter I d (i + 1) kvs.length ep ∧ h₃.DictAt knd d kvs ep :=
        ⟨st₂.1.at fun o e => (hs₃.2 _ (Nat.ne_of_lt (by show @LT.lt Nat _ I _; k_extra "n:c"))).trans e, st₂.2.at' fun o e => (hs₃.2 _ (Nat.ne_of_lt (by show @LT.lt Nat _ d _; k_extra "n:c"))).trans e⟩
      obtain ⟨oI, eI, cI, dI⟩ := st₃.1
      have N₃ : News h₀ L h₃ ((I, oI) :: (I + 1 + 1, { cls := .type "dict", data := .dict #[] }) :: (I + 1 + 1 + 1, oc₃) :: (I + 1, oD) :: news) := fun p hp => by
        rcases List.mem_cons.mp hp with rfl | hp
        · exact ⟨eI, Nat.ne_of_gt hLlt, fresh₀ _ (Nat.le_refl _)⟩
        rcases List.mem_cons.mp hp with rfl | hp
        · have z := N₂ _ (.head _)
          exact ⟨(hs₃.2 _ (Nat.ne_of_lt (by show @LT.lt Nat _ (I + 1 + 1) (I + 1 + 1 + 1); k_extra "n:c"))).trans z.1, z.2⟩
        rcases List.mem_cons.mp hp with rfl | hp
        · exact ⟨ec₃, (N₂ _ (.tail _ (.head _))).2⟩
        · have z := N₂ p (.tail _ (.tail _ hp))
          refine ⟨(hs₃.2 _ ?_).trans z.1, z.2⟩
          rcases List.mem_cons.mp hp with rfl | hp
          · exact Nat.ne_of_lt (by show @LT.lt Nat _ (I + 1) (I + 1 + 1 + 1); k_extra "n:c")
          · have := nlt p hp
            exact Nat.ne_of_lt (by show @LT.lt Nat _ p.1 (I + 1 + 1 + 1); k_extra "n:c")
      refine wpAny_tests_nil ?_
      simp only [if_true]
      have hkm : kk ∈ kvs.map Prod.fst := List.mem_map.mpr ⟨(kk, xv), List.mem_of_getElem? hkx, rfl⟩
      refine wpAny_mono (turn kk v I oI _ _ _ oc₃ _ oD h₃ _ _ hkm hkv dc₃ F₃ N₃) (fun kv s₄ hq => ?_) fun _ _ e => e
      obtain ⟨hkk, h₄, tk₄, rfl, F₄, N₄⟩ := hq
      refine wpAny_mono (el kk v I oI _ _ _ oc₃ _ oD h₄ _ _ hkm hkv dc₃ F₄ N₄) (fun y s₅ hq => ?_) fun _ _ e => e
      obtain ⟨hVy, h₅, tk₅, rfl, F₅, N₅⟩ := hq
      have zD := N₅ (I + 1, oD) (.tail _ (.tail _ (.tail _ (.head _))))
      have hlo : ovs.length ≤ kvs.length := by
        have := congrArg List.length hks
        simp at this; omega
      refine wpAny_dictSet_pairs (knd := knd) (hsz := Nat.le_trans hlo hsz) hkk (Heap.dictOf_iff.mpr ⟨oD, zD.1, hoD⟩) fun h₆ hl₆ hs₆ => ?_
      obtain ⟨oD₆, eD₆, iD₆⟩ := Heap.dictOf_iff.mp hl₆
      have hnk : kk ∉ (kvs.map Prod.fst).take i := by
        intro hin
        obtain ⟨j, hj1, hj2⟩ := List.mem_iff_getElem.mp hin
        have hj3 : j < i := by simp at hj1; omega
        have e1 : (kvs.map Prod.fst)[j]'(by simp; omega) = kk := by simpa using hj2
        have e2 : (kvs.map Prod.fst)[i]'(by simpa using hlt') = kk := by
          have := List.getElem?_eq_some_iff.mp hkx
          obtain ⟨q1, q2⟩ := this
          simp [q2]
        have e3 := (List.pairwise_iff_getElem.mp hnd) j i (by simp; omega) (by simpa using hlt') hj3
        exact e3 (e1.trans e2.symm)
      have hst : stored ovs kk y = ovs ++ [(kk, y)] := by
        unfold stored
        rw [if_neg]
        intro ha
        obtain ⟨p, hp, e⟩ := List.any_eq_true.mp ha
        exact hnk (hks ▸ List.mem_map.mpr ⟨p, hp, by simpa using e⟩)
      rw [hst] at iD₆
      have zI := N₅ (I, oI) (.head _)
      refine ⟨kvs.length + 1 - (i + 1), cnt_down (by assumption), h₆, _, i + 1, oc₃, some v, oD₆, ovs ++ [(kk, y)], rfl, hlt', rfl, ⟨⟨oI, (hs₆.2 _ (Nat.ne_of_lt (by show @LT.lt Nat _ I (I + 1); k_extra "n:c"))).trans zI.1, cI, dI⟩, ?_⟩, F₅.change hs₆ zD.2.1 zD.2.2, fun p hp => ?_, dc₃, iD₆, ?_, ?_⟩
      · obtain ⟨o2, es2, e2, r2⟩ := hat
        rw [(N _ hm).1] at e2; cases e2
        exact ⟨_, es2, (hs₆.2 _ (Nat.ne_of_lt (by show @LT.lt Nat _ d (I + 1); k_extra "n:c"))).trans (N₅ _ (.tail _ (.tail _ (.tail _ (.tail _ hm))))).1, r2⟩
      · have key : ∀ q ∈ ((I, oI) :: (I + 1 + 1, { cls := .type "dict", data := .dict #[] }) :: (I + 1 + 1 + 1, oc₃) :: (I + 1, oD) :: news : List (Addr × Obj)), @Ne Nat q.1 (I + 1) → h₆.get? q.1 = some q.2 ∧ q.1 ≠ L ∧ h₀.get? q.1 = none := fun q hq hne => ⟨(hs₆.2 _ hne).trans (N₅ q hq).1, (N₅ q hq).2⟩
        rcases List.mem_cons.mp hp with rfl | hp
        · exact key _ (.tail _ (.head _)) (Nat.ne_of_gt (by show @LT.lt Nat _ (I + 1) (I + 1 + 1); k_extra "n:c"))
        rcases List.mem_cons.mp hp with rfl | hp
        · exact key _ (.tail _ (.tail _ (.head _))) (Nat.ne_of_gt (by show @LT.lt Nat _ (I + 1) (I + 1 + 1 + 1); k_extra "n:c"))
        rcases List.mem_cons.mp hp with rfl | hp
        · exact ⟨eD₆, zD.2⟩
        · have := nlt p hp
          exact key _ (.tail _ (.tail _ (.tail _ (.tail _ hp)))) (Nat.ne_of_lt (by show @LT.lt Nat _ p.1 (I + 1); k_extra "n:c"))
      · rw [List.map_append, hks, List.take_add_one]
        simp [hkx]
      · intro p hp
        rcases List.mem_append.mp hp with hp | hp
        · exact hV p hp
        · rw [List.mem_singleton.mp hp]; exact hVy
    · obtain rfl : i = kvs.length := Nat.le_antisymm hi (Nat.not_lt.mp hlt')
      refine W.done _ _ _ st fun h₂ tk₂ hk₂ => ?_
      have F₂ : Fr h₀ L h₂ m := LCg.fr_but F' hk₂ (Nat.ne_of_lt hLlt) (fresh₀ _ (Nat.le_refl _))
      have N₂ := LCg.news_but N' hk₂ offI
      have zC := N₂ _ (.head _)
      refine ⟨fun _ => none, ⟨_, #[], 0, zC.1, rfl, fun _ he => by simp at he, fun _ => rfl⟩, fun h'' hs'' => ?_⟩
      refine fin (I + 1) oD h'' tk₂ ovs (F₂.change hs'' zC.2.1 zC.2.2) (fun p hp => ?_) hoD (by rw [hks]; exact List.take_of_length_le (by simp)) hV fun p hp => ?_
      · have z := N₂ p (.tail _ (.tail _ hp))
        refine ⟨(hs''.2 _ ?_).trans z.1, z.2⟩
        rcases List.mem_cons.mp hp with rfl | hp
        · exact Nat.ne_of_lt (by show @LT.lt Nat _ (I + 1) (I + 1 + 1); k_extra "n:c")
        · have := nlt p hp
          exact Nat.ne_of_lt (by show @LT.lt Nat _ p.1 (I + 1 + 1); k_extra "n:c")
      · have := nlt p hp
        show @LT.lt Nat _ p.1 (I + 1)
        omega
  exact codeAny_compStart_dict (loop _ rfl) (W.self 0 _ _ _ st0 (loop _ rfl))
theorem all_cut : ∀ prog w A E s h₀ L m env kx vx iter x px scope cl pos Q s₁ d o news ep I H1 H2 H3 H4, Pcut prog w A E s h₀ L m env kx vx iter x px scope cl pos Q s₁ d o news ep I H1 H2 H3 H4 := by
  have h : Pcut prog w A E s h₀ L m env kx vx iter x px scope cl pos Q s₁ d o news ep I H1 H2 H3 H4 := at_cut
  delta prog w A E s h₀ L m env kx vx iter x px scope cl pos Q s₁ d o news ep I H1 H2 H3 H4 at h
  exact fun prog w A E s h₀ L m env kx vx iter x px scope cl pos Q s₁ d o news ep I H1 H2 H3 H4 => Classical.choose_spec ex_cut h ((prog, w, A, E, s, h₀), (L, m, env, kx, vx, iter), (x, px, scope, cl, pos, Q), (s₁, d, o, news, ep, I), (H1, H2, H3, H4))
end K_dictComp_cell
theorem dictComp_cell {prog : Program} {w : World} {A : Around} {E : Value → Shared → Prop} {s : Shared} {h₀ : Heap} {L : Addr} {m : Str → Option Value} {env : Env} {K : Type} [DecidableEq K] {knd : KeyKind prog w K} {kx vx iter : Expr} {x : Str} {px : Pos} {scope : Scope} {cl : List (Str × Addr)} {pos : Pos} {Q : Value → Shared → Prop}
    (hclos : closureFor scope env = pure cl) (hkind : scope.kind = .function)
    (hnames : ∀ y ∈ scope.names, y.2 = .local → scope.names.lookup y.1 = some .local)
    (hcf : ∀ n, cellsFrom n scope.names cl = (x, n) :: cl) (hpc : ∀ h : Heap, pushCells h scope.names = h.push { cls := .type "cell", data := .cell none })
    (hx : (relabel scope env).names.lookup x = some .cell)
    (h : wpAny (model prog w) A (eval iter env) (DcC.Src K prog w A h₀ L m env knd kx vx x scope cl Q) E s)
    (hs : ∀ x, foldedSetIterable iter env x = pure x := by intro _; rfl) :
    wpAny (model prog w) A (eval (.DictComp kx vx [⟨.Name x px, iter, [], 0⟩] scope pos) env) Q E s := K_dictComp_cell.cut.2 (no_implicit_lambda% K_dictComp_cell.all_cut)          hclos hkind hnames hcf hpc hx h hs
section
variable {prog : Program} {w : World} {A : Around} {E : Value → Shared → Prop} {s : Shared} {h₀ : Heap} {L : Addr} {m : Str → Option Value} {env : Env} {K : Type} [DecidableEq K] {knd : KeyKind prog w K}
end
end Mine
end
section
open PySem PySem.W PyProof.Rows PySem.Spec PySem.Calls
open Builtin Builtin.Str
set_option maxRecDepth 100000
namespace Mine
theorem nolen_dk : typeLookup (.type "dict_keyiterator") "__len__" = pure none := by rw [typeLookup_type, builtinLookup_eq_fast]; kernel_rfl
theorem hint_dk : typeLookup (.type "dict_keyiterator") "__length_hint__" = pure (some (.builtin "dict_keyiterator.__length_hint__")) := by rw [typeLookup_type, builtinLookup_eq_fast]; kernel_rfl
theorem nolist_dk : ((Value.type "dict" == .type "list" || Value.type "dict" == .type "tuple") = true) = False := by decide
section
variable {prog : Program} {w : World} {A : Around} {E : Value → Shared → Prop} {s : Shared} {I : Addr} {fp wr : List Addr} {G : Array GenState → Array GenState → Prop} {n : Nat} {P : Nat → Value → Prop} {St : Nat → Shared → Prop}
theorem collect_dk {Q : List Value → Shared → Prop}
    (W : WalksS prog w A.in1 I fp wr G n P St) (hT : ∀ i s, St i s → s.TypeIs (.ref I) "dict_keyiterator") (hst : St 0 s) (hfp : ∀ b ∈ fp, b < s.heap.objs.size) (hI : I ∈ fp)
    (hQ : ∀ s' acc, Moved wr G s s' → ItemsOf P acc n → Q acc.toList s') (hn : n ≤ sizeLine) : wpAny (model prog w) A (collect (.ref I)) Q E s := by
  have hSf : s.heap.objs.size ∉ fp := fun hm => Nat.lt_irrefl _ (hfp _ hm)
  have hSI : s.heap.objs.size ≠ I := fun e => hSf (e ▸ hI)
  unfold collect
  refine wpAny_bind (wpAny_runValue (codeAny_builtin F.entry_proto_collect ?_))
  rw [Around.under_plainId F.plain_proto_collect _]
  show wpAny _ A.in1 (newList [] >>= fun l => again (.builtin "list.__iadd__" ⟨[l, .ref I], []⟩)) _ _ s
  refine wpAny_bind (wpAny_newObj_type ?_)
  refine wpAny_pure ⟨plainId_quiet F.plain_list_iadd _, codeAny_builtin F.entry_list_iadd ?_⟩
  rw [Around.under_plainId F.plain_list_iadd _]
  have hst₁ := W.frame 0 s (s.heap.push { cls := .type "list", data := .seq ([] : List Value).toArray }) s.toks hst (Nat.le_refl _) fun b _ o e => Heap.get?_push_of_some _ e
  have hS₁ : (s.heap.push { cls := .type "list", data := .seq ([] : List Value).toArray }).get? s.heap.objs.size = some { cls := .type "list", data := .seq ([] : List Value).toArray } := Heap.get?_push_size _ rfl
  have h1 : Builtin.List.listSameRef (.ref s.heap.objs.size) (.ref I) = false := by simp [Builtin.List.listSameRef, hSI]
  show wpAny _ A.in1 (Builtin.List.listExtendWith (.ref s.heap.objs.size) (.ref I) (.ref s.heap.objs.size)) _ _ _
  unfold Builtin.List.listExtendWith
  refine wpAny_bind (wpAny_typeOf (hT 0 _ hst₁) ?_)
  rw [if_neg (by rw [h1]; decide)]
  refine wpAny_bind (W.self 0 _ _ _ hst₁ ?_)
  refine wpAny_bind (wpAny_holding ?_)
  unfold Builtin.List.listLengthHint
  refine wpAny_bind (wpAny_specialOf (hT 0 _ hst₁) nolen_dk ?_)
  show wpAny _ A.in1 (specialOf (Value.ref I) (Str.ofString "__length_hint__") >>= _) _ _ _
  refine wpAny_bind (wpAny_specialOf (hT 0 _ hst₁) hint_dk ?_)
  generalize hid : ("dict_keyiterator.__length_hint__" : String) = id0
  wp_delta
  rw [show splitId id0 = some ("dict_keyiterator", "__length_hint__") from by subst hid; decide +kernel]
  subst hid
  refine wpAny_bind (wpAny_isInstance (b := true) (hT 0 _ hst₁) (by rw [isSubtype_type]; kernel_rfl) ?_)
  refine wpAny_pure ?_
  rw [if_neg (by decide)]
  refine wpAny_pure ⟨plainId_quiet F.plain_extend_loop _, codeAny_extend_loopS W hn _ hSf _ n 0 _ _ _ rfl (Nat.zero_le _) hst₁ hS₁ (ItemsOf.nil P) fun s' acc' c' hm hS' hacc => ?_⟩
  show wpAny _ A (load s.heap.objs.size >>= _) _ _ s'
  refine wpAny_bind (wpAny_load hS' ?_)
  exact wpAny_pure (hQ s' acc' (Moved.drop_new (o := { cls := .type "list", data := .seq ([] : List Value).toArray }) (tk := s.toks) hm (Nat.le_refl _)) hacc)
end
section
variable {prog : Program} {w : World} {A : Around} {E : Value → Shared → Prop} {s : Shared} {h₀ : Heap} {L : Addr} {m : Str → Option Value} {x : Str} {t : Tok} {Q : Value → Shared → Prop}
/-- x.join(d) of a dict of strs of the ledger -/
theorem join_dict {d : Addr} {o : Obj} {news : List (Addr × Obj)} {kvs : List (Str × Value)} (hh : A.handled = none) (hd : (d == sysModules) = false) (Fo : Fr h₀ L s.heap m) (N : News h₀ L s.heap news) (hm : (d, o) ∈ news)
    (hdo : o.IsDictOf (PySem.strKind prog w) kvs) (hsz : kvs.length ≤ sizeLine) (hok : JoinOk x (kvs.map Prod.fst) = true)
    (h : ∀ h' tk t', Fr h₀ L h' m → News h₀ L h' news → Q (.str (Txt.join x (kvs.map Prod.fst)) t') { s with heap := h', toks := tk }) :
    wpAny (model prog w) A (call (.builtin "str.join") [.str x t, .ref d]) Q E s := by
  have hdd : s.heap.DictOf (PySem.strKind prog w) d kvs := Heap.dictOf_iff.mpr ⟨o, (N _ hm).1, hdo⟩
  obtain ⟨ep, hat⟩ := hdd.dictAt
  have hlt : d < s.heap.objs.size := Heap.lt_size (N _ hm).1
  refine wpAny_call (codeAny_call_builtin F.slot_str_join.plain F.entry_str_join (F.slot_str_join.check _ _ _ _ _ _ _ _ (typeIs_str _ _ _) (F.args_str_join_2 _ _) ?_))
  rw [join_tree_other]
  refine wpAny_bind (wpAny_typeOf hdd.typeIs ?_)
  show wpAny _ A.in1 ((pyIter (.ref d)).tryCatch _ >>= fun it => collect it >>= fun items => joinTail x items) _ _ s
  refine wpAny_bind (wpAny_tryCatch (wpAny_pyIter_dict hd hat ?_))
  have W := (Walks.dictKeys (prog := prog) (w := w) (A := A.in1.in1) (knd := PySem.strKind prog w) hh s.heap.objs.size d (Nat.ne_of_lt hlt) kvs ep).toS
  refine wpAny_bind (collect_dk W (fun i s' st => ?_) ⟨⟨_, Heap.get?_push_size _ rfl, rfl, rfl⟩, hat.push _⟩ (fun b hb => ?_) (.head _) (fun s' acc hmv hacc => ?_) hsz)
  · obtain ⟨oI, eI, cI, _⟩ := st.1
    exact ⟨oI, eI, cI⟩
  · show b < (s.heap.push _).objs.size
    rw [Heap.size_push]
    rcases List.mem_cons.mp hb with rfl | hb
    · exact Nat.lt_succ_self _
    · rw [List.mem_singleton.mp hb]; exact Nat.lt_succ_of_lt hlt
  · obtain ⟨l, hl⟩ := exists_strValues acc.toList fun v hv => by
      obtain ⟨j, hj, rfl⟩ := Array.mem_iff_getElem.mp (Array.mem_toList_iff.mp hv)
      obtain ⟨k, xv, _, hk⟩ := hacc.2 j _ (Array.getElem?_eq_getElem hj)
      obtain ⟨u, e⟩ := Value.isStrOf_shape hk
      exact ⟨k, u, e⟩
    rw [← hl]
    have hlen : l.length = kvs.length := by
      have e1 : (strValues l).length = acc.toList.length := congrArg List.length hl
      have e2 : acc.toList.length = kvs.length := by rw [Array.length_toList]; exact hacc.1
      have e3 : (strValues l).length = l.length := by simp [strValues]
      omega
    have hkeys : l.map (·.1) = kvs.map Prod.fst := by
      refine List.ext_getElem? fun j => ?_
      rw [List.getElem?_map, List.getElem?_map]
      cases hj : l[j]? with
      | none =>
        have h1 : l.length ≤ j := List.getElem?_eq_none_iff.mp hj
        rw [List.getElem?_eq_none (by omega : kvs.length ≤ j)]
        rfl
      | some q =>
        have h1 : acc.toList[j]? = some (.str q.1 q.2) := by
          rw [← hl]
          simp [strValues, hj]
        obtain ⟨k, xv, e1, e2⟩ := hacc.2 j _ (by rw [← Array.getElem?_toList]; exact h1)
        obtain ⟨u, e3⟩ := Value.isStrOf_shape (x := k) (v := .str q.1 q.2) e2
        injection e3 with e4 e5
        rw [e1]
        exact congrArg some e4
    have hok' : JoinOk x (l.map (·.1)) = true := by rw [hkeys]; exact hok
    have hok2 := hok'
    unfold JoinOk at hok'
    rw [Bool.not_eq_true'] at hok'
    have g : Gives (joinTail x (strValues l)) (joinMade x l) := by
      have g0 := gives_joinTail x l hok'
      cases l with
      | nil => exact g0
      | cons p r => cases r with
        | nil => exact g0
        | cons q r' => exact g0
    have up : ∀ b o, b ≠ s.heap.objs.size → s.heap.get? b = some o → s'.heap.get? b = some o := fun b o hb e => hmv.heap b o (by simpa using hb) (Heap.get?_push_of_some _ e)
    have upK : ∀ b o, s.heap.get? b = some o → s'.heap.get? b = some o := fun b o e => up b o (Nat.ne_of_lt (Heap.lt_size e)) e
    refine g prog w A (wants Q E) s' (post_join l ⟨joinFit_length hok', fun t' k => ?_⟩)
    have e0 : ({ s' with toks := k } : Shared) = { s with heap := s'.heap, toks := k } := by
      obtain ⟨h1, h2, h3, h4, h5⟩ := hmv
      cases s'
      simp_all
    rw [hkeys, e0]
    exact h _ _ _ (Fo.keeps upK) (N.grown upK)
end
end Mine
end
section
theorem Mine.off_W17 : True := by (w_top off; trivial)
open PySem PySem.W PyProof.Rows PySem.Spec PySem.Calls
set_option maxRecDepth 100000
namespace Mine
set_option maxHeartbeats 1000000 in
/-- push_token -/
theorem push_spec {w : World} {p : Program} {loose : List Str} {mean : ExcName → Option Value} {mg mb : Str → Option Value} {A₀ : Around} {base h₀ : Heap} {L : Addr} {m : Str → Option Value} {cn : Str} {cs : Scope} {ca : Addr} {ccd : Value} {cl : List (Str × Addr)} {outer : List Env} {gd : Option (List Code)} {s : Shared} {R : Result → Shared → Prop}
    {z : LexH} {lf : Addr} {fix rest : List (Addr × Obj)} {ln : Int} {tln : Tok} {vs : List Value} {npb nl : Nat} {v : Str} {t : Tok} {pbs : List Value}
    (B : Below A₀ base outer h₀) (F : Fr h₀ L s.heap m) (X : (Mine.hd.heap_39 w.params).In h₀) (N : News h₀ L s.heap (lexAll z lf vs nl ln tln pbs npb fix rest)) (T : Top p loose mean mg mb h₀)
    (hk : cs.kind = .function) (O : LexOn w z lf fix rest base) (hlen : pbs.length ≤ 10000)
    (h : ∀ h' tk' npb', Fr h₀ L h' m → News h₀ L h' (lexAll z lf vs nl ln tln (pbs ++ [.str v t]) npb' fix rest) → R (.ok (.ret .none)) { s with heap := h', toks := tk' }) :
    codeAny (model Challenge.rw_pg0196_01.row.prog w) (At 250 gd (envX cn cs L ca ccd cl :: outer)) (.call (.ref 56) ⟨[.ref z.lx, .str v t], []⟩) R s := by
  revert X
  k_fill
  intro X
  have CH := O.ch
  have off := O.off
  obtain ⟨lx, dl, st, ds, pb, pb2, f, h1, h2, h3, h4, g1, g2, g3, g4, g5, t1, t2, t3, t4, t5, u1, u2, u3, u4, u5, u6, u7⟩ := z
  obtain ⟨a1, a2, a3, a4, a5, b1, b3, b4, b5, c1, c3, c4, r1, r2, r3⟩ := off
  dsimp only [lexAll, lexLed, List.cons_append, List.nil_append] at N
  dsimp only at a1 a2 a3 a4 a5 b1 b3 b4 b5 c1 c3 c4 r1 r2 r3
  k_dflt ktr_enter
  k_steps
  (rename Fr h₀ _ _ _ => gF); (rename News h₀ _ _ _ => gN)
  rw [List.push_toArray] at gN
  exact h _ _ _ gF gN
end Mine
end
section
open PySem PySem.W PyProof.Rows PySem.Spec PySem.Calls
set_option maxRecDepth 100000
namespace Mine
/-- the five leads -/
structure Five where
  a : List Nat
  b : List Nat
  c : List Nat
  d : List Nat
  e : List Nat
noncomputable def rowText (l : List Nat) (nm : Nat) : List Nat := rowc (l ++ [nm])
noncomputable def textOf (z : Five) : List Nat := rowText z.a 97 ++ (rowText z.b 98 ++ (rowText z.c 99 ++ (rowText z.d 100 ++ (rowText z.e 101 ++ []))))
noncomputable def LeadFit (l : List Nat) : Prop := LeadOk l ∧ (scan l).k ≤ 2 ∧ (scan l).b ≤ 5 ∧ (scan l).n ≤ 12 ∧ (scan l).nt ≤ 5 ∧ l.length ≤ 8 ∧ ∀ c ∈ l, c = 32 ∨ c = 9
structure FiveFit (z : Five) : Prop where
  a : LeadFit z.a
  b : LeadFit z.b
  c : LeadFit z.c
  d : LeadFit z.d
  e : LeadFit z.e

theorem news_re {h₀ h : Heap} {L : Addr} {a b : List (Addr × Obj)} (N : News h₀ L h a) (hs : ∀ p ∈ b, p ∈ a) : News h₀ L h b := fun p hp => N p (hs p hp)
theorem lits_all {h₀ h : Heap} {L : Addr} {z : LexH} {lf : Addr} {fix rest : List (Addr × Obj)} (lits : List (Addr × Obj)) {vs pbs : List Value} {nl npb : Nat} {ln : Int} {tln : Tok} (N : News h₀ L h (lits ++ lexAll z lf vs nl ln tln pbs npb fix rest)) : News h₀ L h (lexAll z lf vs nl ln tln pbs npb fix (lits ++ rest)) := fun p hp => N p (by
  (try simp only [lexAll] at hp ⊢)
  revert p; k_extra "x:sub")
theorem all_lits {h₀ h : Heap} {L : Addr} {z : LexH} {lf : Addr} {fix rest : List (Addr × Obj)} (lits : List (Addr × Obj)) {vs pbs : List Value} {nl npb : Nat} {ln : Int} {tln : Tok} (N : News h₀ L h (lexAll z lf vs nl ln tln pbs npb fix (lits ++ rest))) : News h₀ L h (lits ++ lexAll z lf vs nl ln tln pbs npb fix rest) := fun p hp => N p (by
  (try simp only [lexAll] at hp ⊢)
  revert p; k_extra "x:sub")
theorem truthy_strK {prog : Program} {w : World} {A : Around} {E : Value → Shared → Prop} {s : Shared} {x : Str} {t : Tok} {b : Bool} {Q : Bool → Shared → Prop} (hl : x.length ≤ 10000) (hb : ((x.length : Int) != 0) = b) (h : Q b { s with toks := s.toks + 1 + 1 }) : wpAny (model prog w) A (truthy (.str x t)) Q E s :=
  PySem.P.truthy_str (by omega) (by rw [hb]; exact h)
theorem tok_truthy (l : List Nat) (c : Nat) : (((⟨(l ++ [c]).toArray⟩ : Str).length : Int) != 0) = true := by
  have e : (⟨(l ++ [c]).toArray⟩ : Str).length = l.length + 1 := by simp [Str.length]
  rw [e]
  simp
  omega
theorem tok_len {l : List Nat} (c : Nat) (h : l.length ≤ 8) : (⟨(l ++ [c]).toArray⟩ : Str).length ≤ 10000 := by
  have e : (⟨(l ++ [c]).toArray⟩ : Str).length = l.length + 1 := by simp [Str.length]
  omega
theorem str_last {prog : Program} {w : World} {A : Around} {E : Value → Shared → Prop} {s : Shared} {value slice : PySem.Expr} {l : List Nat} {c : Nat} {t u : Tok} {k : Int} {Q : Value → Shared → Prop} (hk : k = -1) (h : ∀ t' tk, Q (.str ⟨#[c]⟩ t') { s with toks := tk })
    (hs : subscripted slice false (.str ⟨(l ++ [c]).toArray⟩ t) (.int k u) = operate [.str ⟨(l ++ [c]).toArray⟩ t, .int k u] (getItem (.str ⟨(l ++ [c]).toArray⟩ t) (.int k u)) := by with_unfolding_all rfl) :
    wpAny (model prog w) A (subscriptTail value slice (.str ⟨(l ++ [c]).toArray⟩ t) (.int k u)) Q E s := by
  subst hk
  refine tail_any (show s.TypeIs (.str _ t) "str" from rfl) PySem.F.slot_str_getitem.lookup (PySem.P.getItem_str (c := c) (by decide) ?_ (h _ _)) hs
  have e : (⟨(l ++ [c]).toArray⟩ : Str).length = l.length + 1 := by simp [Str.length]
  rw [e]
  have e2 : seqIndex? (-1) (l.length + 1) = some l.length := by
    unfold seqIndex?
    simp
    omega
  rw [e2]
  simp
/-- what lies apart from the tail of the ledger -/
structure TailOff (L ld lf : Addr) (z : LexH) (fix rest : List (Addr × Obj)) : Prop where
  b1 : ∀ p ∈ fix ++ rest, p.1 ≠ L + 1 + 1 + 1
  b2 : ∀ p ∈ fix ++ rest, p.1 ≠ L + 1 + 1
  b3 : ∀ p ∈ fix ++ rest, p.1 ≠ L + 1
  b4 : ∀ p ∈ fix ++ rest, p.1 ≠ ld
  b5 : ∀ p ∈ fix ++ rest, p.1 ≠ (145 : Addr)
  r1 : ∀ p ∈ fix ++ rest, p.1 ≠ lf
  r2 : ∀ p ∈ fix ++ rest, p.1 ≠ z.dl
  r3 : ∀ p ∈ fix ++ rest, p.1 ≠ z.pb
theorem off_more {d : Addr} {fix rest fr : List (Addr × Obj)} (h : ∀ p ∈ fix ++ rest, p.1 ≠ d) (hf : ∀ q ∈ fr, @LT.lt Nat _ d q.1) : ∀ p ∈ fix ++ (rest ++ fr), p.1 ≠ d := fun p hp => by
  rcases List.mem_append.mp hp with hp | hp
  · exact h p (List.mem_append_left _ hp)
  · rcases List.mem_append.mp hp with hp | hp
    · exact h p (List.mem_append_right _ hp)
    · exact Nat.ne_of_gt (hf p hp)
theorem LexOn.mk5 {w : World} {L ld lf : Addr} {z : LexH} {fix rest rest0 : List (Addr × Obj)} {base : Heap} (nx : NextSpec w fix z.f lf) (hf : ∃ foc fod ffd fsl, (z.f, (⟨foc, fod, .func ffd, fsl⟩ : Obj)) ∈ fix) (ch : CodeHd base 142 138) (off : LexOff z lf rest0) (T : TailOff L ld lf z fix rest)
    (h1 : @LT.lt Nat _ (L + 1 + 1 + 1) lf) (h2 : @LT.lt Nat _ (L + 1 + 1 + 1) z.dl) (h3 : @LT.lt Nat _ (L + 1 + 1 + 1) z.pb) (k1 : @LT.lt Nat _ lf ld) (k2 : @LT.lt Nat _ z.dl ld) (k3 : @LT.lt Nat _ z.pb ld) (k4 : @LT.lt Nat _ 145 L) (od o1 o2 c3 tb : Obj) : LexOn w z lf fix ([(ld, od), (L + 1 + 1 + 1, o1), (L + 1 + 1, o2), (L + 1, c3), (145, tb)] ++ rest) base :=
  have key : ∀ {d : Addr}, (∀ p ∈ fix ++ rest, p.1 ≠ d) → @LT.lt Nat _ (L + 1 + 1 + 1) d → @LT.lt Nat _ d ld → ∀ p ∈ fix ++ ([(ld, od), (L + 1 + 1 + 1, o1), (L + 1 + 1, o2), (L + 1, c3), ((145 : Addr), tb)] ++ rest), p.1 ≠ d := fun {d} H a b p hp => by
    rcases List.mem_append.mp hp with hp | hp
    · exact H p (List.mem_append_left _ hp)
    · rcases List.mem_append.mp hp with hp | hp
      · simp only [List.mem_cons, List.not_mem_nil, or_false] at hp
        refine neN ?_
        rcases hp with rfl | rfl | rfl | rfl | rfl <;> dsimp only <;> omega
      · exact H p (List.mem_append_right _ hp)
  ⟨nx, hf, { off with r1 := key T.r1 h1 k1, r2 := key T.r2 h2 k2, r3 := key T.r3 h3 k3 }, ch⟩
theorem NameC.of {c : Nat} (h : c = 97 ∨ c = 98 ∨ c = 99 ∨ c = 100 ∨ c = 101) : NameC c := by
  rcases h with rfl | rfl | rfl | rfl | rfl <;> exact ⟨by decide +kernel, by decide +kernel, by decide +kernel, by decide, by decide⟩
theorem lead_tok {l : List Nat} {nm : Nat} (hz : LeadFit l) (h : nm = 97 ∨ nm = 98 ∨ nm = 99 ∨ nm = 100 ∨ nm = 101) : ∀ c ∈ l ++ [nm], TokC c := fun c hc => by
  rcases List.mem_append.mp hc with hc | hc
  · exact .inl (hz.2.2.2.2.2.2 c hc)
  · exact .inr (List.mem_singleton.mp hc ▸ NameC.of h)
theorem news_tail {h₀ h : Heap} {L : Addr} {a0 a1 a2 a3 a4 a5 a6 a7 a8 a9 a10 : Addr × Obj} {fix rest fr : List (Addr × Obj)} (N : News h₀ L h ((a0 :: a1 :: a2 :: a3 :: a4 :: a5 :: a6 :: a7 :: a8 :: a9 :: a10 :: (fix ++ rest)) ++ fr)) : News h₀ L h (a0 :: a1 :: a2 :: a3 :: a4 :: a5 :: a6 :: a7 :: a8 :: a9 :: a10 :: (fix ++ (rest ++ fr))) := fun p hp => N p (by
  revert p; k_extra "x:sub")
theorem TailOff.more {L ld lf : Addr} {z : LexH} {fix rest fr : List (Addr × Obj)} (T : TailOff L ld lf z fix rest) {lits : List (Addr × Obj)} (hf : ∀ p ∈ lits, ∀ q ∈ fr, @LT.lt Nat _ p.1 q.1) {x1 x2 x3 x4 x5 x6 x7 x8 : Obj}
    (m1 : ((L + 1 + 1 + 1, x1) : Addr × Obj) ∈ lits) (m2 : ((L + 1 + 1, x2) : Addr × Obj) ∈ lits) (m3 : ((L + 1, x3) : Addr × Obj) ∈ lits) (m4 : ((ld, x4) : Addr × Obj) ∈ lits) (m5 : ((145, x5) : Addr × Obj) ∈ lits) (m6 : ((lf, x6) : Addr × Obj) ∈ lits) (m7 : ((z.dl, x7) : Addr × Obj) ∈ lits) (m8 : ((z.pb, x8) : Addr × Obj) ∈ lits) : TailOff L ld lf z fix (rest ++ fr) :=
  ⟨off_more T.b1 (hf _ m1), off_more T.b2 (hf _ m2), off_more T.b3 (hf _ m3), off_more T.b4 (hf _ m4), off_more T.b5 (hf _ m5), off_more T.r1 (hf _ m6), off_more T.r2 (hf _ m7), off_more T.r3 (hf _ m8)⟩
end Mine
end
section
open PySem PySem.W PyProof.Rows PySem.Spec PySem.Calls
set_option maxRecDepth 100000
namespace Mine


theorem use_look {l : Option Obj} {o o' : Obj} {G : Prop} (h1 : l = some o) (h2 : l = some o') (k : o' = o → G) : G := k (Option.some.inj (h2.symm.trans h1))
theorem canon1 {m : Str → Option Value} {a : Str} {x : Value} (h1 : m a = some x) : m = fun v => if v = a then some x else m v := by
  funext v
  by_cases e1 : v = a
  · rw [if_pos e1, e1, h1]
  · rw [if_neg e1]
noncomputable def OffLex (z : LexH) (lf : Addr) (p : Addr × Obj) : Prop := @Ne Nat p.1 lf ∧ @Ne Nat p.1 z.dl ∧ @Ne Nat p.1 z.pb
theorem LexOn.cons {w : World} {z : LexH} {lf : Addr} {fix rest : List (Addr × Obj)} {base : Heap} {a : Addr × Obj} (O : LexOn w z lf fix rest base) (h : OffLex z lf a) : LexOn w z lf fix (a :: rest) base := by
  obtain ⟨nx, hf, off, ch⟩ := O
  have key : ∀ {d : Addr}, (∀ p ∈ fix ++ rest, p.1 ≠ d) → a.1 ≠ d → ∀ p ∈ fix ++ a :: rest, p.1 ≠ d := fun H ha p hp => by
    rcases List.mem_append.mp hp with hp | hp
    · exact H p (List.mem_append_left _ hp)
    · rcases List.mem_cons.mp hp with rfl | hp
      · exact ha
      · exact H p (List.mem_append_right _ hp)
  exact ⟨nx, hf, { off with r1 := key off.r1 h.1, r2 := key off.r2 h.2.1, r3 := key off.r3 h.2.2 }, ch⟩
/-- one name, its lead's object and what its lead is -/
structure Row where
  nm : Str
  x : Addr
  k : Nat
  b : Nat
  n : Nat
  nt : Nat
noncomputable def lessR (r q : Row) : Bool := lessB r.k r.b r.n r.nt q.k q.b q.n q.nt
noncomputable def takenOf (rows : List Row) (r : Row) : Str := r.nm ++ Txt.join (Str.ofString "") ((rows.filter (lessR r)).map (·.nm))
noncomputable def rowsV (rows : List Row) : List (Str × Value) := rows.map fun r => (r.nm, .ref r.x)
noncomputable def pzOf (rows : List Row) (r : Row) (k : Str) : Bool := (rows.filter fun q => q.nm = k).any (lessR r)
theorem rows_inj : ∀ {rows : List Row}, (rows.map (·.nm)).Nodup → ∀ {r q : Row}, r ∈ rows → q ∈ rows → r.nm = q.nm → r = q := by
  intro rows
  induction rows with
  | nil => intro _ r q h; cases h
  | cons a l ih =>
    intro hn r q hr hq e
    rw [List.map_cons, List.nodup_cons] at hn
    rcases List.mem_cons.mp hr with rfl | hr' <;> rcases List.mem_cons.mp hq with rfl | hq'
    · rfl
    · exact (hn.1 (List.mem_map.mpr ⟨q, hq', e.symm⟩)).elim
    · exact (hn.1 (List.mem_map.mpr ⟨r, hr', e⟩)).elim
    · exact ih hn.2 hr' hq' e
theorem rowsV_at {rows : List Row} (hn : (rows.map (·.nm)).Nodup) {r : Row} (hr : r ∈ rows) : valueAt (rowsV rows) r.nm = some (.ref r.x) := by
  unfold valueAt rowsV
  rw [List.find?_map]
  cases hf : rows.find? ((fun kv : Str × Value => decide (kv.1 = r.nm)) ∘ fun r => (r.nm, Value.ref r.x)) with
  | none => exact absurd (List.find?_eq_none.mp hf r hr) (by simp)
  | some q =>
    have h1 := List.find?_some hf
    have h2 := List.mem_of_find?_eq_some hf
    simp at h1
    rw [rows_inj hn h2 hr h1]
    rfl
theorem pzOf_at {rows : List Row} (hn : (rows.map (·.nm)).Nodup) {r q : Row} (hq : q ∈ rows) : pzOf rows r q.nm = lessR r q := by
  unfold pzOf
  rw [Bool.eq_iff_iff, List.any_eq_true]
  constructor
  · rintro ⟨a, ha, hl⟩
    obtain ⟨h1, h2⟩ := List.mem_filter.mp ha
    rw [← rows_inj hn h1 hq (by simpa using h2)]
    exact hl
  · intro hl
    exact ⟨q, List.mem_filter.mpr ⟨hq, by simp⟩, hl⟩
theorem filter_rows {rows : List Row} (hn : (rows.map (·.nm)).Nodup) {r : Row} : (rows.map (·.nm)).filter (pzOf rows r) = (rows.filter (lessR r)).map (·.nm) := by
  rw [List.filter_map]
  congr 1
  exact List.filter_congr fun q hq => pzOf_at hn hq
theorem weight_filter (p : Row → Bool) : ∀ rows : List Row, ((((rows.filter p).map (·.nm)).map (·.length)).sum ≤ ((rows.map (·.nm)).map (·.length)).sum) := by
  intro rows
  induction rows with
  | nil => exact Nat.le_refl _
  | cons a l ih =>
    rw [List.filter_cons]
    split
    · simp only [List.map_cons, List.sum_cons]; exact Nat.add_le_add_left ih _
    · simp only [List.map_cons, List.sum_cons]; exact Nat.le_trans ih (Nat.le_add_left _ _)
theorem weight_rows {rows : List Row} (hrows : rows.map (·.nm) = [⟨#[97]⟩, ⟨#[98]⟩, ⟨#[99]⟩, ⟨#[100]⟩, ⟨#[101]⟩]) (p : Row → Bool) : (((rows.filter p).map (·.nm)).map (·.length)).sum + ((rows.filter p).map (·.nm)).length ≤ 1048576 := by
  have h1 := weight_filter p rows
  rw [hrows] at h1
  have h2 : rows.length = 5 := by rw [← List.length_map (f := Row.nm), hrows]; rfl
  have h3 := List.length_filter_le p rows
  have h4 : (([⟨#[97]⟩, ⟨#[98]⟩, ⟨#[99]⟩, ⟨#[100]⟩, ⟨#[101]⟩] : List Str).map (·.length)).sum = 5 := rfl
  rw [h4] at h1
  rw [List.length_map]
  omega
theorem one_len {rows : List Row} (hrows : rows.map (·.nm) = [⟨#[97]⟩, ⟨#[98]⟩, ⟨#[99]⟩, ⟨#[100]⟩, ⟨#[101]⟩]) {r : Row} (hr : r ∈ rows) : r.nm.length = 1 := by
  have h : r.nm ∈ rows.map (·.nm) := List.mem_map.mpr ⟨r, hr, rfl⟩
  rw [hrows] at h
  simp only [List.mem_cons, List.not_mem_nil, or_false] at h
  rcases h with e | e | e | e | e <;> rw [e] <;> rfl
theorem name_len {rows : List Row} (hrows : rows.map (·.nm) = [⟨#[97]⟩, ⟨#[98]⟩, ⟨#[99]⟩, ⟨#[100]⟩, ⟨#[101]⟩]) {r : Row} (hr : r ∈ rows) (p : Row → Bool) : r.nm.length + (Txt.join (Str.ofString "") ((rows.filter p).map (·.nm))).length ≤ 16777216 := by
  have h2 : rows.length = 5 := by rw [← List.length_map (f := Row.nm), hrows]; rfl
  have h3 := List.length_filter_le p rows
  rw [one_len hrows hr, PySem.W.KT.join_ones _ (fun a ha => by
    obtain ⟨q, hq, rfl⟩ := List.mem_map.mp ha
    exact one_len hrows (List.mem_filter.mp hq).1), List.length_map]
  omega
theorem strs_of_paired : ∀ {ks : List Str} {ys : List Value}, Paired (fun k y => ∃ t, y = Value.str k t) ks ys → StrsAre ys ks := by
  intro ks ys h
  induction h with
  | nil => exact .nil
  | cons a _ ih => obtain ⟨t, rfl⟩ := a; exact .cons _ t ih
end Mine
end
section
namespace Mine.Plain
/-- a word: the places of its names, rising -/
noncomputable abbrev Wd := List Nat
structure Bk where
  book : List (Wd × List Wd)
  queue : List Wd
/-- what stays of w when i is taken -/
noncomputable def lft (rel : Nat → Nat → Bool) (w : Wd) (i : Nat) : Wd := w.filter fun j => !(j == i || rel i j)
noncomputable def addTo (w l : Wd) : List (Wd × List Wd) → List (Wd × List Wd)
  | [] => []
  | (u, ls) :: r => if u == w then (u, ls ++ [l]) :: r else (u, ls) :: addTo w l r
noncomputable def one (rel : Nat → Nat → Bool) (w : Wd) (s : Bk) (i : Nat) : Bk :=
  let l := lft rel w i
  let b := addTo w l s.book
  if l != [] && !(b.any fun e => e.1 == l) then { book := b ++ [(l, [])], queue := s.queue ++ [l] } else { s with book := b }
noncomputable def turn (rel : Nat → Nat → Bool) (s : Bk) : Bk :=
  match s.queue with
  | [] => s
  | w :: q => w.foldl (one rel w) { s with queue := q }
noncomputable def run (rel : Nat → Nat → Bool) : Nat → Bk → Bk
  | 0, s => s
  | k + 1, s => run rel k (turn rel s)
noncomputable def start : Bk := { book := [([0, 1, 2, 3, 4], [])], queue := [[0, 1, 2, 3, 4]] }
noncomputable def look (w : Wd) (t : List (Wd × Bool)) : Option Bool := (t.find? fun e => e.1 == w).map (·.2)
/-- won: the words by their lengths, the shorter first -/
noncomputable def wonOf (b : List (Wd × List Wd)) : List (Wd × Bool) :=
  ((List.range 6).flatMap fun n => b.filter fun e => e.1.length == n).foldl (fun t e => t ++ [(e.1, !(e.2.all fun l => look l t == some true))]) [([], false)]
/-- every left of every word is known when it is asked for -/
noncomputable def known (b : List (Wd × List Wd)) : Bool :=
  (((List.range 6).flatMap fun n => b.filter fun e => e.1.length == n).foldl (fun (t : List Wd × Bool) e => (t.1 ++ [e.1], t.2 && e.2.all fun l => t.1.contains l)) ([[]], true)).2
noncomputable def heldOf (f : Nat) : Wd := (List.range 5).filter fun k => f.testBit k
noncomputable def dueOf (rel : Nat → Nat → Bool) : List (Wd × Bool) :=
  (List.range 31).foldl (fun t f0 =>
    let held := heldOf (f0 + 1)
    if (held.any fun k => (List.range 5).any fun j => rel j k && !(held.contains j)) then t else
      let top := held.filter fun k => held.all fun j => j == k || rel j k
      let left := held.map fun k => held.filter fun j => j != k && !(rel k j)
      t ++ [(held, top != [] || !(left.all fun l => look l t == some true))]) [([], false)]
noncomputable def same (a b : List (Wd × Bool)) : Bool := a.length == b.length && a.all fun e => look e.1 b == some e.2
/-- the relation of twelve truths among the four; every one of the four is below the fifth -/
noncomputable def relB (a1 a2 a3 b0 b2 b3 c0 c1 c3 d0 d1 d2 : Bool) : Nat → Nat → Bool
  | 0, 1 => a1
  | 0, 2 => a2
  | 0, 3 => a3
  | 1, 0 => b0
  | 1, 2 => b2
  | 1, 3 => b3
  | 2, 0 => c0
  | 2, 1 => c1
  | 2, 3 => c3
  | 3, 0 => d0
  | 3, 1 => d1
  | 3, 2 => d2
  | 0, 4 => true
  | 1, 4 => true
  | 2, 4 => true
  | 3, 4 => true
  | _, _ => false
noncomputable def ordB (rel : Nat → Nat → Bool) : Bool := (List.range 4).all fun i => (List.range 4).all fun j => !(rel i j) || (List.range 4).all fun k => !(rel j k) || rel i k
noncomputable def good (rel : Nat → Nat → Bool) : Bool :=
  let b := run rel 31 start
  b.queue == [] && known b.book && same (wonOf b.book) (dueOf rel)
end Mine.Plain
end
section
namespace Mine.Plain
noncomputable def nodupB : List Wd → Bool
  | [] => true
  | w :: r => !(r.any fun u => u == w) && nodupB r
/-- what the table t tells of the book b: each word's truth is that of its lefts, which are shorter words of the book -/
noncomputable def told (b : List (Wd × List Wd)) (t : List (Wd × Bool)) : Bool :=
  b.length + 1 == t.length && look [] t == some false && nodupB (b.map (·.1)) && b.all fun e =>
    e.1 != [] && Nat.ble e.1.length 5 && look e.1 t == some (!(e.2.all fun l => look l t == some true)) && Nat.ble e.2.length 5 && e.2.all fun l => l == [] || (b.any (fun u => u.1 == l) && Nat.blt l.length e.1.length)
noncomputable def good2 (rel : Nat → Nat → Bool) : Bool :=
  let b := run rel 31 start
  b.queue == [] && told b.book (dueOf rel)
noncomputable abbrev fine2 (a1 a2 a3 b0 b2 b3 c0 c1 c3 d0 d1 d2 : Bool) : Bool := !(ordB (relB a1 a2 a3 b0 b2 b3 c0 c1 c3 d0 d1 d2)) || good2 (relB a1 a2 a3 b0 b2 b3 c0 c1 c3 d0 d1 d2)
theorem part0 : ∀ b2 b3 c0 c1 c3 d0 d1 d2 : Bool, fine2 false false false false b2 b3 c0 c1 c3 d0 d1 d2 = true := by decide +kernel
theorem part1 : ∀ b2 b3 c0 c1 c3 d0 d1 d2 : Bool, fine2 true false false false b2 b3 c0 c1 c3 d0 d1 d2 = true := by decide +kernel
theorem part2 : ∀ b2 b3 c0 c1 c3 d0 d1 d2 : Bool, fine2 false true false false b2 b3 c0 c1 c3 d0 d1 d2 = true := by decide +kernel
theorem part3 : ∀ b2 b3 c0 c1 c3 d0 d1 d2 : Bool, fine2 true true false false b2 b3 c0 c1 c3 d0 d1 d2 = true := by decide +kernel
theorem part4 : ∀ b2 b3 c0 c1 c3 d0 d1 d2 : Bool, fine2 false false true false b2 b3 c0 c1 c3 d0 d1 d2 = true := by decide +kernel
theorem part5 : ∀ b2 b3 c0 c1 c3 d0 d1 d2 : Bool, fine2 true false true false b2 b3 c0 c1 c3 d0 d1 d2 = true := by decide +kernel
theorem part6 : ∀ b2 b3 c0 c1 c3 d0 d1 d2 : Bool, fine2 false true true false b2 b3 c0 c1 c3 d0 d1 d2 = true := by decide +kernel
theorem part7 : ∀ b2 b3 c0 c1 c3 d0 d1 d2 : Bool, fine2 true true true false b2 b3 c0 c1 c3 d0 d1 d2 = true := by decide +kernel
theorem part8 : ∀ b2 b3 c0 c1 c3 d0 d1 d2 : Bool, fine2 false false false true b2 b3 c0 c1 c3 d0 d1 d2 = true := by decide +kernel
theorem part9 : ∀ b2 b3 c0 c1 c3 d0 d1 d2 : Bool, fine2 true false false true b2 b3 c0 c1 c3 d0 d1 d2 = true := by decide +kernel
theorem part10 : ∀ b2 b3 c0 c1 c3 d0 d1 d2 : Bool, fine2 false true false true b2 b3 c0 c1 c3 d0 d1 d2 = true := by decide +kernel
theorem part11 : ∀ b2 b3 c0 c1 c3 d0 d1 d2 : Bool, fine2 true true false true b2 b3 c0 c1 c3 d0 d1 d2 = true := by decide +kernel
theorem part12 : ∀ b2 b3 c0 c1 c3 d0 d1 d2 : Bool, fine2 false false true true b2 b3 c0 c1 c3 d0 d1 d2 = true := by decide +kernel
theorem part13 : ∀ b2 b3 c0 c1 c3 d0 d1 d2 : Bool, fine2 true false true true b2 b3 c0 c1 c3 d0 d1 d2 = true := by decide +kernel
theorem part14 : ∀ b2 b3 c0 c1 c3 d0 d1 d2 : Bool, fine2 false true true true b2 b3 c0 c1 c3 d0 d1 d2 = true := by decide +kernel
theorem part15 : ∀ b2 b3 c0 c1 c3 d0 d1 d2 : Bool, fine2 true true true true b2 b3 c0 c1 c3 d0 d1 d2 = true := by decide +kernel
/-- the game law of every strict order of the four under a fifth, word by word -/
theorem plain2 : ∀ a1 a2 a3 b0 b2 b3 c0 c1 c3 d0 d1 d2 : Bool, fine2 a1 a2 a3 b0 b2 b3 c0 c1 c3 d0 d1 d2 = true := by
  intro a1 a2 a3 b0
  cases b0 <;> cases a3 <;> cases a2 <;> cases a1
  · exact part0
  · exact part1
  · exact part2
  · exact part3
  · exact part4
  · exact part5
  · exact part6
  · exact part7
  · exact part8
  · exact part9
  · exact part10
  · exact part11
  · exact part12
  · exact part13
  · exact part14
  · exact part15
end Mine.Plain
end
section
set_option maxRecDepth 100000
namespace Mine
namespace Plain
/-- the lead of a number below 24; 24 stands for the fifth -/
noncomputable def leadL (v : Nat) : List Nat := if v = 24 then [9, 9, 9, 32, 32, 32, 32] else List.replicate (v / 12 * min (v % 3) 1) 32 ++ List.replicate (v % 3) 9 ++ List.replicate (v / 3 % 4) 32
noncomputable def lessL (i j : Nat) : Bool := lessB (scan (leadL i)).k (scan (leadL i)).b (scan (leadL i)).n (scan (leadL i)).nt (scan (leadL j)).k (scan (leadL j)).b (scan (leadL j)).n (scan (leadL j)).nt
noncomputable def col (size : Nat) (l : List Nat) : Nat := l.foldl (fun c s => if s = 32 then c + 1 else (c / size + 1) * size) 0
noncomputable def cols (l : List Nat) : List Nat := [col 1 l, col 2 l, col 3 l, col 4 l, col 5 l]
noncomputable def deeperL (i j : Nat) : Bool := ((cols (leadL i)).zip (cols (leadL j))).all fun p => decide (p.1 < p.2)
theorem less_deeper : ∀ i < 25, ∀ j < 25, lessL i j = deeperL i j := by decide +kernel
theorem less_trans : ∀ i < 24, ∀ j < 24, lessL i j = true → ∀ k < 24, lessL j k = true → lessL i k = true := by decide +kernel
theorem less_e : ∀ i < 24, lessL i 24 = true := by decide +kernel
theorem e_less : ∀ i < 25, lessL 24 i = false := by decide +kernel
theorem less_irrefl : ∀ i < 24, lessL i i = false := by decide +kernel
noncomputable def fitB (l : List Nat) : Bool :=
  ((List.range l.length).all fun i => match l[i]? with
    | some c => (c == 32 || (c == 9 && (((scan (l.take i)).b == 0 && decide ((scan (l.take i)).k ≤ 2)) || ((scan (l.take i)).b == 1 && (scan (l.take i)).k == 0)))) && decide ((scan (l.take i)).k ≤ 2) && decide ((scan (l.take i)).b ≤ 4) && decide ((scan (l.take i)).n ≤ 11) && decide ((scan (l.take i)).nt ≤ 4)
    | none => false) && decide ((scan l).k ≤ 2) && decide ((scan l).b ≤ 5) && decide ((scan l).n ≤ 12) && decide ((scan l).nt ≤ 5) && decide (l.length ≤ 8) && l.all fun c => c == 32 || c == 9
theorem fit_of {l : List Nat} (h : fitB l = true) : LeadFit l := by
  unfold fitB at h
  simp only [Bool.and_eq_true, List.all_eq_true, decide_eq_true_eq] at h
  obtain ⟨⟨⟨⟨⟨⟨h1, h2⟩, h3⟩, h4⟩, h5⟩, h6⟩, h7⟩ := h
  refine ⟨fun i hi => ?_, h2, h3, h4, h5, h6, fun c hc => by simpa using h7 c hc⟩
  have := h1 i (List.mem_range.mpr hi)
  cases hc : l[i]? with
  | none => rw [hc] at this; exact absurd this (by simp)
  | some c =>
    rw [hc] at this
    refine ⟨c, rfl, ?_⟩
    simpa [and_assoc] using this
theorem fits : ∀ v < 25, fitB (leadL v) = true := by decide +kernel
end Plain
end Mine
end
section
set_option maxRecDepth 100000
namespace Mine
namespace Plain
noncomputable def vAt (v0 v1 v2 v3 : Nat) : Nat → Nat
  | 0 => v0
  | 1 => v1
  | 2 => v2
  | 3 => v3
  | _ => 24
noncomputable def relV (v0 v1 v2 v3 : Nat) : Nat → Nat → Bool := relB (lessL v0 v1) (lessL v0 v2) (lessL v0 v3) (lessL v1 v0) (lessL v1 v2) (lessL v1 v3) (lessL v2 v0) (lessL v2 v1) (lessL v2 v3) (lessL v3 v0) (lessL v3 v1) (lessL v3 v2)
theorem relV_eq {v0 v1 v2 v3 : Nat} (h0 : v0 < 24) (h1 : v1 < 24) (h2 : v2 < 24) (h3 : v3 < 24) : ∀ i < 5, ∀ j < 5, relV v0 v1 v2 v3 i j = lessL (vAt v0 v1 v2 v3 i) (vAt v0 v1 v2 v3 j) := by
  intro i hi j hj
  exact five (P := fun i => relV v0 v1 v2 v3 i j = lessL (vAt v0 v1 v2 v3 i) (vAt v0 v1 v2 v3 j))
    (five (P := fun j => relV v0 v1 v2 v3 0 j = lessL v0 (vAt v0 v1 v2 v3 j)) (less_irrefl v0 h0).symm rfl rfl rfl (less_e v0 h0).symm j hj)
    (five (P := fun j => relV v0 v1 v2 v3 1 j = lessL v1 (vAt v0 v1 v2 v3 j)) rfl (less_irrefl v1 h1).symm rfl rfl (less_e v1 h1).symm j hj)
    (five (P := fun j => relV v0 v1 v2 v3 2 j = lessL v2 (vAt v0 v1 v2 v3 j)) rfl rfl (less_irrefl v2 h2).symm rfl (less_e v2 h2).symm j hj)
    (five (P := fun j => relV v0 v1 v2 v3 3 j = lessL v3 (vAt v0 v1 v2 v3 j)) rfl rfl rfl (less_irrefl v3 h3).symm (less_e v3 h3).symm j hj)
    (five (P := fun j => relV v0 v1 v2 v3 4 j = lessL 24 (vAt v0 v1 v2 v3 j)) (e_less v0 (Nat.lt_succ_of_lt h0)).symm (e_less v1 (Nat.lt_succ_of_lt h1)).symm (e_less v2 (Nat.lt_succ_of_lt h2)).symm (e_less v3 (Nat.lt_succ_of_lt h3)).symm (e_less 24 (Nat.lt_succ_self _)).symm j hj)
    i hi
theorem vAt_lt {v0 v1 v2 v3 : Nat} (h0 : v0 < 24) (h1 : v1 < 24) (h2 : v2 < 24) (h3 : v3 < 24) : ∀ i < 4, vAt v0 v1 v2 v3 i < 24 := by
  exact fun i hi => five (P := fun i => i < 4 → vAt v0 v1 v2 v3 i < 24) (fun _ => h0) (fun _ => h1) (fun _ => h2) (fun _ => h3) (fun h => (Nat.lt_irrefl _ h).elim) i (Nat.lt_succ_of_lt hi) hi
theorem ord_relV {v0 v1 v2 v3 : Nat} (h0 : v0 < 24) (h1 : v1 < 24) (h2 : v2 < 24) (h3 : v3 < 24) : ordB (relV v0 v1 v2 v3) = true := by
  unfold ordB
  have L := vAt_lt h0 h1 h2 h3
  have R := relV_eq h0 h1 h2 h3
  refine List.all_eq_true.mpr fun i hi => List.all_eq_true.mpr fun j hj => ?_
  have hi := List.mem_range.mp hi
  have hj := List.mem_range.mp hj
  rw [R i (Nat.lt_succ_of_lt hi) j (Nat.lt_succ_of_lt hj)]
  cases hij : lessL (vAt v0 v1 v2 v3 i) (vAt v0 v1 v2 v3 j) with
  | false => rfl
  | true =>
    refine List.all_eq_true.mpr fun k hk => ?_
    have hk := List.mem_range.mp hk
    rw [R j (Nat.lt_succ_of_lt hj) k (Nat.lt_succ_of_lt hk), R i (Nat.lt_succ_of_lt hi) k (Nat.lt_succ_of_lt hk)]
    cases hjk : lessL (vAt v0 v1 v2 v3 j) (vAt v0 v1 v2 v3 k) with
    | false => rfl
    | true => rw [less_trans _ (L i hi) _ (L j hj) hij _ (L k hk) hjk]; rfl
end Plain
end Mine
end
section
theorem Mine.off_W21 : True := by (w_top off; trivial)
open PySem PySem.W PyProof.Rows PySem.Spec PySem.Calls
set_option maxRecDepth 100000
namespace Mine
/-- the function at f, called with one sign, says whether q holds of it, and leaves the ledger as it is -/
noncomputable def PredSpec (w : World) (f : Addr) (base : Heap) (C : List (Addr × Obj)) (q : Nat → Bool) : Prop :=
  ∀ (p : Program) (loose : List Str) (mean : ExcName → Option Value) (mg mb : Str → Option Value) (A₀ : Around) (h₀ : Heap) (L : Addr) (m : Str → Option Value) (cn : Str) (cs : Scope) (ca : Addr) (ccd : Value) (cl : List (Str × Addr)) (outer : List Env) (gd : Option (List Code)) (s : Shared) (R : Result → Shared → Prop)
    (news : List (Addr × Obj)) (c : Nat) (t : Tok),
    Below A₀ base outer h₀ → Fr h₀ L s.heap m → (Mine.hd.heap_39 w.params).In h₀ → News h₀ L s.heap news → (∀ p ∈ C, p ∈ news) → Top p loose mean mg mb h₀ → cs.kind = .function →
    (∀ h' tk', Fr h₀ L h' m → News h₀ L h' news → R (.ok (.ret (.bool (q c)))) { s with heap := h', toks := tk' }) →
    codeAny (model Challenge.rw_pg0196_01.row.prog w) (At 100 gd (envX cn cs L ca ccd cl :: outer)) (.call (.ref f) ⟨[.str ⟨#[c]⟩ t], []⟩) R s
local macro_rules | `(tactic| walk_at "pyIter str") => `(tactic| fail "mine")
local macro_rules | `(tactic| walk_at "SPost") => `(tactic| (dsimp only [SPost]))
local macro_rules | `(tactic| walk_at "exec For Name Name cons nil") => `(tactic| (k_here; (rename Fr _ _ _ _ => lF'); (with_unfolding_all refine' For_invVF lF' ?k1 ?k2 ?_; (case k1 => exact rfl); (case k2 => exact rfl); k_whole)))
def held_W21_1 : List String := "call ref;callWith ref".splitOn ";"
local macro_rules | `(tactic| walk_at $s:str) => if held_W21_1.contains s.getString then `(tactic| (k_here; refine hold ?_)) else Lean.Macro.throwUnsupported
structure SpSt where
  yv : List Value
  ky : Nat
  nv : List Value
  kn : Nat
theorem ChAre.snoc1 {c : Nat} {t : Tok} : ∀ {vs : List Value} {l : List Nat}, ChAre vs l → ChAre (vs ++ [.str ⟨#[c]⟩ t]) (l ++ [c]) := by
  intro vs l h
  induction h with
  | nil => exact .cons c t .nil
  | cons a u _ ih => exact .cons a u ih
theorem take_filter {l : List Nat} {i c : Nat} (q : Nat → Bool) (h : l[i]? = some c) : (l.take (i + 1)).filter q = (l.take i).filter q ++ if q c then [c] else [] := by
  rw [List.take_add_one, h, List.filter_append]
  cases hq : q c <;> simp [hq]
set_option maxHeartbeats 1000000 in
theorem split_spec {w : World} {p : Program} {loose : List Str} {mean : ExcName → Option Value} {mg mb : Str → Option Value} {A₀ : Around} {base h₀ : Heap} {L : Addr} {m : Str → Option Value} {cn : Str} {cs : Scope} {ca : Addr} {ccd : Value} {cl : List (Str × Addr)} {outer : List Env} {gd : Option (List Code)} {s : Shared} {R : Result → Shared → Prop}
    {news C : List (Addr × Obj)} {f : Addr} {foc : Value} {fod : Option Addr} {ffd : FuncData} {fsl : Array (Option Value)} {q : Nat → Bool} {x : Str} {tx : Tok}
    (B : Below A₀ base outer h₀) (F : Fr h₀ L s.heap m) (X : (Mine.hd.heap_39 w.params).In h₀) (N : News h₀ L s.heap news) (T : Top p loose mean mg mb h₀)
    (hk : cs.kind = .function) (P : PredSpec w f base C q) (hC : ∀ p ∈ C, p ∈ news) (hf : (f, (⟨foc, fod, .func ffd, fsl⟩ : Obj)) ∈ news) (hx : x.cps.size ≤ 100)
    (h : ∀ h' tk' tu yes no yv nv ky kn kt, Fr h₀ L h' m → News h₀ L h' ((tu, tupObj [.ref yes, .ref no] kt) :: (no, W.listOf nv.toArray kn) :: (yes, W.listOf yv.toArray ky) :: news) → ChAre yv (x.cps.toList.filter q) → ChAre nv (x.cps.toList.filter fun c => !(q c)) →
      @LT.lt Nat _ yes no → @LT.lt Nat _ no tu → (∀ p ∈ news, @LT.lt Nat _ p.1 yes) → R (.ok (.ret (.ref tu))) { s with heap := h', toks := tk' }) :
    codeAny (model Challenge.rw_pg0196_01.row.prog w) (At 60 gd (envX cn cs L ca ccd cl :: outer)) (.call (.ref 70) ⟨[.str x tx, .ref f], []⟩) R s := by
  revert X
  k_fill
  intro X
  k_dflt ktr_enter
  k_steps
  rename_i yes hh3 ly hh2 no hh1 ln hh0 gF gN
  (rename Below _ _ _ _ => fB); (rename Frag.In _ _ => fX); (rename Top _ _ _ _ _ _ => fT)
  have gF' := gF
  have gN' := gN
  clear gF gN
  k_dflt (refine' iter_strS (fun c : SpSt => (no, W.listOf c.nv.toArray c.kn) :: (yes, W.listOf c.yv.toArray c.ky) :: news) (fun _ => []) [] (fun i c => ChAre c.yv ((x.cps.toList.take i).filter q) ∧ ChAre c.nv ((x.cps.toList.take i).filter fun c => !(q c)) ∧ c.yv.length ≤ i ∧ c.nv.length ≤ i) ⟨[], 0, [], 0⟩ (by rfl) gF' gN' ?hl ?hk ?hp ?_ ?_)
  case hl => exact fun p hp => hp
  case hk => exact List.forall_mem_nil _
  case hp => exact ⟨.nil, .nil, Nat.le_refl _, Nat.le_refl _⟩
  · clear gF' gN'
    rintro i ⟨yv, ky, nv, kn⟩ ch t u h' tk own I oI hch ⟨h1, h2, h3, h4⟩ hI hmem hw F' N'
    dsimp only at h1 h2 h3 h4 hI
    dsimp only [List.cons_append, List.nil_append] at N' hI
    have hi : i < 100 := by
      have := (Array.getElem?_eq_some_iff.mp hch).1
      omega
    have hI1 : @Ne Nat no I := hI _ (.head _)
    have hI2 : @Ne Nat yes I := hI _ (.tail _ (.head _))
    have hyn : @LT.lt Nat _ yes no := ln.1
    have q1 : ∀ p ∈ news ++ own, p.1 ≠ no := fun p hp => (List.mem_append.mp hp).elim (allLt_ne ln.2 p) fun h e => hI1 (e.symm.trans (hw p h))
    have q2 : ∀ p ∈ news ++ own, p.1 ≠ yes := fun p hp => (List.mem_append.mp hp).elim (fun h => Nat.ne_of_lt (ly p h)) fun h e => hI2 (e.symm.trans (hw p h))
    have hfy : @LT.lt Nat _ f yes := ly _ hf
    have hf1 : @Ne Nat f yes := Nat.ne_of_lt hfy
    have hf2 : @Ne Nat f no := Nat.ne_of_lt (Nat.lt_trans hfy hyn)
    have hny : @Ne Nat no yes := Nat.ne_of_gt hyn
    have N1 := nc N' (show (f, (⟨foc, fod, .func ffd, fsl⟩ : Obj)) ∈ _ from List.mem_cons_of_mem _ (List.mem_cons_of_mem _ (List.mem_append_left _ hf))) N'
    clear N'
    k_steps; repeat' (first | (refine unhold ?_; (first | (k_dflt (refine' callWith_F ?k1zq ?_; (case k1zq => exact FnAt.of (by k_asm) (by k_mem)); k_whole))); (try k_steps)))
    unfold Hold
    refine wpAny_call ?_
    (rename Fr _ _ _ _ => fF); (rename News _ _ _ _ => fN)
    k_dflt (refine' code_at (P _ _ _ _ _ _ _ _ _ _ _ _ _ _ _ _ _ _ _ _ _ fB fF fX fN ?hC fT ?hk ?h) ?b1 ?b2 ?b3 ?b4 ?b5)
    case b1 => exact rfl
    case b2 => exact rfl
    case b3 => exact rfl
    case b4 => exact Nat.le_of_ble_eq_true rfl
    case b5 => exact Nat.le_of_ble_eq_true rfl
    case hk => exact rfl
    case hC => exact fun p hp => List.mem_cons_of_mem _ (List.mem_cons_of_mem _ (List.mem_cons_of_mem _ (List.mem_append_left _ (hC p hp))))
    case h =>
      clear fF fN
      intro h8 tk8 fF fN
      dsimp only
      have hcl : x.cps.toList[i]? = some ch := by rw [Array.getElem?_toList]; exact hch
      have e1 := take_filter q hcl
      have e2 := take_filter (fun c => !(q c)) hcl
      cases hq : q ch with
      | true =>
        rw [hq] at e1 e2
        simp only [Bool.not_true, Bool.false_eq_true, if_false, if_true, List.append_nil] at e1 e2
        k_steps
        (rename Fr _ _ _ _ => gF); (rename News _ _ _ _ => gN)
        rw [List.push_toArray] at gN
        refine SEnd.intro ⟨yv ++ [Value.str (Str.mk #[ch]) t], ky + 1, nv, kn⟩ (List.forall_mem_nil _) gF gN (fun p hp => List.mem_cons_of_mem _ (List.mem_append_left own hp)) (fun p hp => by (repeat (first | exact List.mem_append_right _ hp | refine List.mem_cons_of_mem _ ?_))) (List.forall_mem_cons.mpr ⟨hI1, List.forall_mem_cons.mpr ⟨hI2, fun p hp => hI p (.tail _ (.tail _ hp))⟩⟩) ?hz ?hP
        case hz => (intro z h1 h2 h3; simp only [if_neg h1, kstB]; first | done | rfl)
        case hP => exact ⟨by rw [e1]; exact h1.snoc1, by rw [e2]; exact h2, by simp; omega, by dsimp only; omega⟩
      | false =>
        rw [hq] at e1 e2
        simp only [Bool.not_false, Bool.false_eq_true, if_false, if_true, List.append_nil] at e1 e2
        k_steps
        (rename Fr _ _ _ _ => gF); (rename News _ _ _ _ => gN)
        rw [List.push_toArray] at gN
        refine SEnd.intro ⟨yv, ky, nv ++ [Value.str (Str.mk #[ch]) t], kn + 1⟩ (List.forall_mem_nil _) gF gN (fun p hp => List.mem_cons_of_mem _ (List.mem_append_left own hp)) (fun p hp => by (repeat (first | exact List.mem_append_right _ hp | refine List.mem_cons_of_mem _ ?_))) (List.forall_mem_cons.mpr ⟨hI1, List.forall_mem_cons.mpr ⟨hI2, fun p hp => hI p (.tail _ (.tail _ hp))⟩⟩) ?hz ?hP
        case hz => (intro z h1 h2 h3; simp only [if_neg h1, kstB]; first | done | rfl)
        case hP => exact ⟨by rw [e1]; exact h1, by rw [e2]; exact h2.snoc1, by dsimp only; omega, by simp; omega⟩
  · clear gF' gN'
    rintro ⟨yv, ky, nv, kn⟩ u h' tk ⟨h1, h2, h3, h4⟩ F' N'
    have eT : x.cps.toList.take x.cps.size = x.cps.toList := List.take_of_length_le (by simp)
    rw [eT] at h1 h2
    dsimp only at h1 h2
    dsimp only at N'
    k_steps
    rename_i l9 kF kN kT kX
    exact h _ _ _ yes no yv nv ky kn _ kF kN h1 h2 ln.1 l9.1 ly
end Mine
end
section
theorem Mine.off_W22 : True := by (w_top off; trivial)
open PySem PySem.W PyProof.Rows PySem.Spec PySem.Calls
set_option maxRecDepth 100000
namespace Mine
def held_W22_1 : List String := "pyIter str".splitOn ";"
local macro_rules | `(tactic| walk_at $s:str) => if held_W22_1.contains s.getString then `(tactic| (k_here; refine hold ?_)) else Lean.Macro.throwUnsupported
local macro_rules | `(tactic| walk_at "SPost") => `(tactic| (dsimp only [SPost]))
local macro_rules | `(tactic| walk_at "exec For Name Name cons nil") => `(tactic| (k_here; (rename Fr _ _ _ _ => lF'); (with_unfolding_all refine' For_invVF lF' ?k1 ?k2 ?_; (case k1 => exact rfl); (case k2 => exact rfl); k_whole)))
theorem cast_col (c k : Nat) : (((c : Int).fdiv (k : Int) + 1) * (k : Int)) = (((c / k + 1) * k : Nat) : Int) := by
  rw [Int.fdiv_eq_ediv_of_nonneg _ (Int.natCast_nonneg k)]
  push_cast
  rfl
namespace K_columns_spec
set_option maxHeartbeats 1000000 in
noncomputable def cut : (@Subtype Prop fun P => P → ∀ {w : World} {p : Program} {loose : List Str} {mean : ExcName → Option Value} {mg mb : Str → Option Value} {A₀ : Around} {base h₀ : Heap} {L : Addr} {m : Str → Option Value} {cn : Str} {cs : Scope} {ca : Addr} {ccd : Value} {cl : List (Str × Addr)} {outer : List Env} {gd : Option (List Code)} {s : Shared} {R : Result → Shared → Prop} {news : List (Addr × Obj)} {x : Str} {tx : Tok} (B : Below A₀ base outer h₀) (F : Fr h₀ L s.heap m) (X : (Mine.hd.heap_39 w.params).In h₀) (N : News h₀ L s.heap news) (T : Top p loose mean mg mb h₀) (hk : cs.kind = .function) (hx : ∀ c ∈ x.cps.toList, c = 32 ∨ c = 9) (hlen : x.cps.size ≤ 8) (h : ∀ h' tk' a n t1 t2 t3 t4 t5, Fr h₀ L h' m → News h₀ L h' ((a, W.listOf #[.int (Plain.col 1 x.cps.toList) t1, .int (Plain.col 2 x.cps.toList) t2, .int (Plain.col 3 x.cps.toList) t3, .int (Plain.col 4 x.cps.toList) t4, .int (Plain.col 5 x.cps.toList) t5] n) :: news) → (∀ p ∈ news, @LT.lt Nat _ p.1 a) → R (.ok (.ret (.ref a))) { s with heap := h', toks := tk' }), codeAny (model Challenge.rw_pg0196_01.row.prog w) (At 60 gd (envX cn cs L ca ccd cl :: outer)) (.call (.ref 155) ⟨[.str x tx], []⟩) R s) := by
  refine' mkCut fun hole => ?_
  rotate_left
  focus
  intro w p loose mean mg mb A₀ base h₀ L m cn cs ca ccd cl outer gd s R news x tx B F X N T hk hx hlen h
  revert X
  k_fill
  intro X
  k_dflt ktr_enter
  k_steps
  unfold Hold
  rename_i v_1 v_2 v_3 i_4 i_5 i_6 i_7 v_8 v_9 v_10 i_11 v_12 v_13 v_14 v_15 v_16 v_17 i_18 i_19 v_20 i_21 v_22 v_23 v_24 i_25 i_26 v_27 i_28 i_29
  revert B F N T hk hx hlen h X i_4 i_5 i_6 i_7 i_11 i_18 i_19 i_21 i_25 i_26 i_28 i_29
  revert qk ek
  dsimp (config := { beta := false, eta := false, etaStruct := .none, iota := false, proj := false }) only
  revert w p loose mean mg mb A₀ base h₀ L m cn cs ca ccd cl outer gd s R news x tx v_1 v_2 v_3 v_8 v_9 v_10 v_12 tk v_13 v_14 v_15 v_16 v_17 v_20 v_22 v_23 v_24 v_27
  exact no_implicit_lambda% hole.get
noncomputable section
noncomputable def Pcut : (World) → (Program) → (List Str) → (ExcName → Option Value) → (Str → Option Value) → (Str → Option Value) → (Around) → (Heap) → (Heap) → (Addr) → (Str → Option Value) → (Str) → (Scope) → (Addr) → (Value) → (List (Str × Addr)) → (List Env) → (Option (List Code)) → (Shared) → (Result → Shared → Prop) → (List (Addr × Obj)) → (Str) → (Tok) → (Heap) → (Addr) → (Heap) → (Nat) → (Addr) → (Heap) → (Heap) → (Nat) → (Heap) → (Nat) → (Tok) → (Tok) → (Tok) → (Addr) → (Tok) → (Heap) → (Nat) → (Heap) → Prop := (@id (∀ {Rcut : (World) → (Program) → (List Str) → (ExcName → Option Value) → (Str → Option Value) → (Str → Option Value) → (Around) → (Heap) → (Heap) → (Addr) → (Str → Option Value) → (Str) → (Scope) → (Addr) → (Value) → (List (Str × Addr)) → (List Env) → (Option (List Code)) → (Shared) → (Result → Shared → Prop) → (List (Addr × Obj)) → (Str) → (Tok) → (Heap) → (Addr) → (Heap) → (Nat) → (Addr) → (Heap) → (Heap) → (Nat) → (Heap) → (Nat) → (Tok) → (Tok) → (Tok) → (Addr) → (Tok) → (Heap) → (Nat) → (Heap) → Prop}, cut.1 = (∀ w p loose mean mg mb A₀ base h₀ L m cn cs ca ccd cl outer gd s R news x tx v_1 v_2 v_3 v_8 v_9 v_10 v_12 tk v_13 v_14 v_15 v_16 v_17 v_20 v_22 v_23 v_24 v_27, Rcut w p loose mean mg mb A₀ base h₀ L m cn cs ca ccd cl outer gd s R news x tx v_1 v_2 v_3 v_8 v_9 v_10 v_12 tk v_13 v_14 v_15 v_16 v_17 v_20 v_22 v_23 v_24 v_27) → _) fun {Rcut} _ => Rcut) rfl
noncomputable def Tcut : Type := (World × Program × (List Str) × (ExcName → Option Value) × (Str → Option Value) × (Str → Option Value) × Around) × (Heap × Heap × Addr × (Str → Option Value) × Str × Scope × Addr) × (Value × (List (Str × Addr)) × (List Env) × (Option (List Code)) × Shared × (Result → Shared → Prop) × (List (Addr × Obj))) × (Str × Tok × Heap × Addr × Heap × Nat × Addr) × (Heap × Heap × Nat × Heap × Nat × Tok × Tok) × (Tok × Addr × Tok × Heap × Nat × Heap)
noncomputable def Qcut (x : Tcut) : Prop := Pcut x.1.1 x.1.2.1 x.1.2.2.1 x.1.2.2.2.1 x.1.2.2.2.2.1 x.1.2.2.2.2.2.1 x.1.2.2.2.2.2.2 x.2.1.1 x.2.1.2.1 x.2.1.2.2.1 x.2.1.2.2.2.1 x.2.1.2.2.2.2.1 x.2.1.2.2.2.2.2.1 x.2.1.2.2.2.2.2.2 x.2.2.1.1 x.2.2.1.2.1 x.2.2.1.2.2.1 x.2.2.1.2.2.2.1 x.2.2.1.2.2.2.2.1 x.2.2.1.2.2.2.2.2.1 x.2.2.1.2.2.2.2.2.2 x.2.2.2.1.1 x.2.2.2.1.2.1 x.2.2.2.1.2.2.1 x.2.2.2.1.2.2.2.1 x.2.2.2.1.2.2.2.2.1 x.2.2.2.1.2.2.2.2.2.1 x.2.2.2.1.2.2.2.2.2.2 x.2.2.2.2.1.1 x.2.2.2.2.1.2.1 x.2.2.2.2.1.2.2.1 x.2.2.2.2.1.2.2.2.1 x.2.2.2.2.1.2.2.2.2.1 x.2.2.2.2.1.2.2.2.2.2.1 x.2.2.2.2.1.2.2.2.2.2.2 x.2.2.2.2.2.1 x.2.2.2.2.2.2.1 x.2.2.2.2.2.2.2.1 x.2.2.2.2.2.2.2.2.1 x.2.2.2.2.2.2.2.2.2.1 x.2.2.2.2.2.2.2.2.2.2
theorem ex_cut : ∃ x : Tcut, Qcut x → ∀ y, Qcut y := by
  haveI := neW; haveI := neA; haveI := neS
  haveI : Nonempty Tcut := by unfold Tcut; set_option synthInstance.maxSize 2000 in infer_instance
  exact henk1 Qcut
noncomputable def Ccut : Tcut := Classical.choose ex_cut
@[irreducible] noncomputable def w : World := Ccut.1.1
@[irreducible] noncomputable def p : Program := Ccut.1.2.1
@[irreducible] noncomputable def loose : List Str := Ccut.1.2.2.1
@[irreducible] noncomputable def mean : ExcName → Option Value := Ccut.1.2.2.2.1
@[irreducible] noncomputable def mg : Str → Option Value := Ccut.1.2.2.2.2.1
@[irreducible] noncomputable def mb : Str → Option Value := Ccut.1.2.2.2.2.2.1
@[irreducible] noncomputable def A₀ : Around := Ccut.1.2.2.2.2.2.2
@[irreducible] noncomputable def base : Heap := Ccut.2.1.1
@[irreducible] noncomputable def h₀ : Heap := Ccut.2.1.2.1
@[irreducible] noncomputable def L : Addr := Ccut.2.1.2.2.1
@[irreducible] noncomputable def m : Str → Option Value := Ccut.2.1.2.2.2.1
@[irreducible] noncomputable def cn : Str := Ccut.2.1.2.2.2.2.1
@[irreducible] noncomputable def cs : Scope := Ccut.2.1.2.2.2.2.2.1
@[irreducible] noncomputable def ca : Addr := Ccut.2.1.2.2.2.2.2.2
@[irreducible] noncomputable def ccd : Value := Ccut.2.2.1.1
@[irreducible] noncomputable def cl : List (Str × Addr) := Ccut.2.2.1.2.1
@[irreducible] noncomputable def outer : List Env := Ccut.2.2.1.2.2.1
@[irreducible] noncomputable def gd : Option (List Code) := Ccut.2.2.1.2.2.2.1
@[irreducible] noncomputable def s : Shared := Ccut.2.2.1.2.2.2.2.1
@[irreducible] noncomputable def R : Result → Shared → Prop := Ccut.2.2.1.2.2.2.2.2.1
@[irreducible] noncomputable def news : List (Addr × Obj) := Ccut.2.2.1.2.2.2.2.2.2
@[irreducible] noncomputable def x : Str := Ccut.2.2.2.1.1
@[irreducible] noncomputable def tx : Tok := Ccut.2.2.2.1.2.1
@[irreducible] noncomputable def v_1 : Heap := Ccut.2.2.2.1.2.2.1
@[irreducible] noncomputable def v_2 : Addr := Ccut.2.2.2.1.2.2.2.1
@[irreducible] noncomputable def v_3 : Heap := Ccut.2.2.2.1.2.2.2.2.1
@[irreducible] noncomputable def v_8 : Nat := Ccut.2.2.2.1.2.2.2.2.2.1
@[irreducible] noncomputable def v_9 : Addr := Ccut.2.2.2.1.2.2.2.2.2.2
@[irreducible] noncomputable def v_10 : Heap := Ccut.2.2.2.2.1.1
@[irreducible] noncomputable def v_12 : Heap := Ccut.2.2.2.2.1.2.1
@[irreducible] noncomputable def tk : Nat := Ccut.2.2.2.2.1.2.2.1
@[irreducible] noncomputable def v_13 : Heap := Ccut.2.2.2.2.1.2.2.2.1
@[irreducible] noncomputable def v_14 : Nat := Ccut.2.2.2.2.1.2.2.2.2.1
@[irreducible] noncomputable def v_15 : Tok := Ccut.2.2.2.2.1.2.2.2.2.2.1
@[irreducible] noncomputable def v_16 : Tok := Ccut.2.2.2.2.1.2.2.2.2.2.2
@[irreducible] noncomputable def v_17 : Tok := Ccut.2.2.2.2.2.1
@[irreducible] noncomputable def v_20 : Addr := Ccut.2.2.2.2.2.2.1
@[irreducible] noncomputable def v_22 : Tok := Ccut.2.2.2.2.2.2.2.1
@[irreducible] noncomputable def v_23 : Heap := Ccut.2.2.2.2.2.2.2.2.1
@[irreducible] noncomputable def v_24 : Nat := Ccut.2.2.2.2.2.2.2.2.2.1
@[irreducible] noncomputable def v_27 : Heap := Ccut.2.2.2.2.2.2.2.2.2.2
end
local macro_rules | `(tactic| law_fm) => `(tactic| skip)
set_option maxHeartbeats 1000000 in
theorem at_cut : Pcut w p loose mean mg mb A₀ base h₀ L m cn cs ca ccd cl outer gd s R news x tx v_1 v_2 v_3 v_8 v_9 v_10 v_12 tk v_13 v_14 v_15 v_16 v_17 v_20 v_22 v_23 v_24 v_27 := by
  intro B F N T hk hx hlen h X i_4 i_5 i_6 i_7 i_11 i_18 i_19 i_21 i_25 i_26 i_28 i_29
  (rename Fr _ _ _ _ => gF); (rename News _ _ _ _ => gN)
  k_dflt (refine' iter_strS (fun _ : Nat × Tok => _) (fun c => [(Str.ofString "column", .int (c.1 : Int) c.2)]) [] (fun i c => c.1 = Plain.col 1 (x.cps.toList.take i)) (0, _) (by rfl) gF gN (fun p hp => hp) ?hk ?hp ?_ ?_)
  case hk => (refine' List.forall_mem_cons.mpr ⟨?a, List.forall_mem_nil _⟩; (case a => with_unfolding_all exact rfl))
  case hp => rfl
  · clear gF gN
    rintro i ⟨c, tc⟩ ch t u h' tk own I oI hch h1 hI hmem hw F' N'
    have hcl : x.cps.toList[i]? = some ch := by rw [Array.getElem?_toList]; exact hch
    have hst : ∀ k, Plain.col k (x.cps.toList.take (i + 1)) = (if ch = 32 then Plain.col k (x.cps.toList.take i) + 1 else (Plain.col k (x.cps.toList.take i) / k + 1) * k) := by
      intro k
      rw [List.take_add_one, hcl]
      simp [Plain.col, List.foldl_append]
    dsimp only at h1
    rcases hx ch (List.mem_of_getElem? hcl) with rfl | rfl
    · k_steps
      (rename Fr _ _ _ _ => gF); (rename News _ _ _ _ => gN)
      k_dflt (refine' SEnd.intro (c + 1, _) (List.forall_mem_cons.mpr ⟨?ps, List.forall_mem_nil _⟩) gF gN (fun p hp => List.mem_append_left own hp) (fun p hp => by (repeat (first | exact List.mem_append_right _ hp | refine List.mem_cons_of_mem _ ?_))) hI ?hz ?hP)
      case ps => with_unfolding_all exact (congrArg (fun v => some (Value.int v _)) (rfl : ((c : Int) + 1) = ((c + 1 : Nat) : Int)))
      case hz => (intro z h1 h2 h3; (have e1 := h2 _ (.head _)); clear h2; dsimp only at e1; simp only [if_neg h1, if_neg e1, kstB]; first | done | rfl)
      case hP => (rw [hst, h1]; rfl)
    · k_steps
      (rename Fr _ _ _ _ => gF); (rename News _ _ _ _ => gN)
      k_dflt (refine' SEnd.intro ((c / 1 + 1) * 1, _) (List.forall_mem_cons.mpr ⟨?ps, List.forall_mem_nil _⟩) gF gN (fun p hp => List.mem_append_left own hp) (fun p hp => by (repeat (first | exact List.mem_append_right _ hp | refine List.mem_cons_of_mem _ ?_))) hI ?hz ?hP)
      case ps => with_unfolding_all exact (congrArg (fun v => some (Value.int v _)) (cast_col c 1))
      case hz => (intro z h1 h2 h3; (have e1 := h2 _ (.head _)); clear h2; dsimp only at e1; simp only [if_neg h1, if_neg e1, kstB]; first | done | rfl)
      case hP => (rw [hst, h1]; rfl)
  · clear gF gN
    rintro ⟨c1, t1⟩ u h' tk e1 F' N'
    dsimp only at e1
    rw [show x.cps.toList.take x.cps.size = x.cps.toList from List.take_of_length_le (by simp)] at e1
    subst e1
    k_steps
    (rename Fr _ _ _ _ => gF); (rename News _ _ _ _ => gN)
    refine UnrEnd.intro gF gN _ (fun p hp => hp) ?off1 ?_
    case off1 => first | assumption | (refine List.forall_mem_cons.mpr ⟨?_, ?_⟩ <;> first | assumption | (refine allLt_ne ?_; first | assumption | exact And.right (by assumption)) | (refine Nat.ne_of_lt ?_; first | assumption | exact And.left (by assumption)) | (dsimp only; first | assumption | exact And.left (by assumption) | exact And.right (by assumption) | exact Ne.symm (by assumption)) | trace_state)
    clear gF gN
    k_steps
    unfold Hold
    (rename Fr _ _ _ _ => gF); (rename News _ _ _ _ => gN)
    k_dflt (refine' iter_strS (fun _ : Nat × Tok => _) (fun c => [(Str.ofString "column", .int (c.1 : Int) c.2)]) [] (fun i c => c.1 = Plain.col 2 (x.cps.toList.take i)) (0, _) (by rfl) gF gN (fun p hp => hp) ?hk ?hp ?_ ?_)
    case hk => (refine' List.forall_mem_cons.mpr ⟨?a, List.forall_mem_nil _⟩; (case a => with_unfolding_all exact rfl))
    case hp => rfl
    · clear gF gN
      rintro i ⟨c, tc⟩ ch t u h' tk own I oI hch h1 hI hmem hw F' N'
      have hcl : x.cps.toList[i]? = some ch := by rw [Array.getElem?_toList]; exact hch
      have hst : ∀ k, Plain.col k (x.cps.toList.take (i + 1)) = (if ch = 32 then Plain.col k (x.cps.toList.take i) + 1 else (Plain.col k (x.cps.toList.take i) / k + 1) * k) := by
        intro k
        rw [List.take_add_one, hcl]
        simp [Plain.col, List.foldl_append]
      dsimp only at h1
      rcases hx ch (List.mem_of_getElem? hcl) with rfl | rfl
      · k_steps
        (rename Fr _ _ _ _ => gF); (rename News _ _ _ _ => gN)
        k_dflt (refine' SEnd.intro (c + 1, _) (List.forall_mem_cons.mpr ⟨?ps, List.forall_mem_nil _⟩) gF gN (fun p hp => List.mem_append_left own hp) (fun p hp => by (repeat (first | exact List.mem_append_right _ hp | refine List.mem_cons_of_mem _ ?_))) hI ?hz ?hP)
        case ps => with_unfolding_all exact (congrArg (fun v => some (Value.int v _)) (rfl : ((c : Int) + 1) = ((c + 1 : Nat) : Int)))
        case hz => (intro z h1 h2 h3; (have e1 := h2 _ (.head _)); clear h2; dsimp only at e1; simp only [if_neg h1, if_neg e1, kstB]; first | done | rfl)
        case hP => (rw [hst, h1]; rfl)
      · k_steps
        (rename Fr _ _ _ _ => gF); (rename News _ _ _ _ => gN)
        k_dflt (refine' SEnd.intro ((c / 2 + 1) * 2, _) (List.forall_mem_cons.mpr ⟨?ps, List.forall_mem_nil _⟩) gF gN (fun p hp => List.mem_append_left own hp) (fun p hp => by (repeat (first | exact List.mem_append_right _ hp | refine List.mem_cons_of_mem _ ?_))) hI ?hz ?hP)
        case ps => with_unfolding_all exact (congrArg (fun v => some (Value.int v _)) (cast_col c 2))
        case hz => (intro z h1 h2 h3; (have e1 := h2 _ (.head _)); clear h2; dsimp only at e1; simp only [if_neg h1, if_neg e1, kstB]; first | done | rfl)
        case hP => (rw [hst, h1]; rfl)
    · clear gF gN
      rintro ⟨c2, t2⟩ u h' tk e2 F' N'
      dsimp only at e2
      rw [show x.cps.toList.take x.cps.size = x.cps.toList from List.take_of_length_le (by simp)] at e2
      subst e2
      k_steps
      (rename Fr _ _ _ _ => gF); (rename News _ _ _ _ => gN)
      refine UnrEnd.intro gF gN _ (fun p hp => hp) ?off2 ?_
      case off2 => first | assumption | (refine List.forall_mem_cons.mpr ⟨?_, ?_⟩ <;> first | assumption | (refine allLt_ne ?_; first | assumption | exact And.right (by assumption)) | (refine Nat.ne_of_lt ?_; first | assumption | exact And.left (by assumption)) | (dsimp only; first | assumption | exact And.left (by assumption) | exact And.right (by assumption) | exact Ne.symm (by assumption)) | trace_state)
      clear gF gN
      k_steps
      unfold Hold
      (rename Fr _ _ _ _ => gF); (rename News _ _ _ _ => gN)
      k_dflt (refine' iter_strS (fun _ : Nat × Tok => _) (fun c => [(Str.ofString "column", .int (c.1 : Int) c.2)]) [] (fun i c => c.1 = Plain.col 3 (x.cps.toList.take i)) (0, _) (by rfl) gF gN (fun p hp => hp) ?hk ?hp ?_ ?_)
      case hk => (refine' List.forall_mem_cons.mpr ⟨?a, List.forall_mem_nil _⟩; (case a => with_unfolding_all exact rfl))
      case hp => rfl
      · clear gF gN
        rintro i ⟨c, tc⟩ ch t u h' tk own I oI hch h1 hI hmem hw F' N'
        have hcl : x.cps.toList[i]? = some ch := by rw [Array.getElem?_toList]; exact hch
        have hst : ∀ k, Plain.col k (x.cps.toList.take (i + 1)) = (if ch = 32 then Plain.col k (x.cps.toList.take i) + 1 else (Plain.col k (x.cps.toList.take i) / k + 1) * k) := by
          intro k
          rw [List.take_add_one, hcl]
          simp [Plain.col, List.foldl_append]
        dsimp only at h1
        rcases hx ch (List.mem_of_getElem? hcl) with rfl | rfl
        · k_steps
          (rename Fr _ _ _ _ => gF); (rename News _ _ _ _ => gN)
          k_dflt (refine' SEnd.intro (c + 1, _) (List.forall_mem_cons.mpr ⟨?ps, List.forall_mem_nil _⟩) gF gN (fun p hp => List.mem_append_left own hp) (fun p hp => by (repeat (first | exact List.mem_append_right _ hp | refine List.mem_cons_of_mem _ ?_))) hI ?hz ?hP)
          case ps => with_unfolding_all exact (congrArg (fun v => some (Value.int v _)) (rfl : ((c : Int) + 1) = ((c + 1 : Nat) : Int)))
          case hz => (intro z h1 h2 h3; (have e1 := h2 _ (.head _)); clear h2; dsimp only at e1; simp only [if_neg h1, if_neg e1, kstB]; first | done | rfl)
          case hP => (rw [hst, h1]; rfl)
        · k_steps
          (rename Fr _ _ _ _ => gF); (rename News _ _ _ _ => gN)
          k_dflt (refine' SEnd.intro ((c / 3 + 1) * 3, _) (List.forall_mem_cons.mpr ⟨?ps, List.forall_mem_nil _⟩) gF gN (fun p hp => List.mem_append_left own hp) (fun p hp => by (repeat (first | exact List.mem_append_right _ hp | refine List.mem_cons_of_mem _ ?_))) hI ?hz ?hP)
          case ps => with_unfolding_all exact (congrArg (fun v => some (Value.int v _)) (cast_col c 3))
          case hz => (intro z h1 h2 h3; (have e1 := h2 _ (.head _)); clear h2; dsimp only at e1; simp only [if_neg h1, if_neg e1, kstB]; first | done | rfl)
          case hP => (rw [hst, h1]; rfl)
      · clear gF gN
        rintro ⟨c3, t3⟩ u h' tk e3 F' N'
        dsimp only at e3
        rw [show x.cps.toList.take x.cps.size = x.cps.toList from List.take_of_length_le (by simp)] at e3
        subst e3
        k_steps
        (rename Fr _ _ _ _ => gF); (rename News _ _ _ _ => gN)
        refine UnrEnd.intro gF gN _ (fun p hp => hp) ?off3 ?_
        case off3 => first | assumption | (refine List.forall_mem_cons.mpr ⟨?_, ?_⟩ <;> first | assumption | (refine allLt_ne ?_; first | assumption | exact And.right (by assumption)) | (refine Nat.ne_of_lt ?_; first | assumption | exact And.left (by assumption)) | (dsimp only; first | assumption | exact And.left (by assumption) | exact And.right (by assumption) | exact Ne.symm (by assumption)) | trace_state)
        clear gF gN
        k_steps
        unfold Hold
        (rename Fr _ _ _ _ => gF); (rename News _ _ _ _ => gN)
        k_dflt (refine' iter_strS (fun _ : Nat × Tok => _) (fun c => [(Str.ofString "column", .int (c.1 : Int) c.2)]) [] (fun i c => c.1 = Plain.col 4 (x.cps.toList.take i)) (0, _) (by rfl) gF gN (fun p hp => hp) ?hk ?hp ?_ ?_)
        case hk => (refine' List.forall_mem_cons.mpr ⟨?a, List.forall_mem_nil _⟩; (case a => with_unfolding_all exact rfl))
        case hp => rfl
        · clear gF gN
          rintro i ⟨c, tc⟩ ch t u h' tk own I oI hch h1 hI hmem hw F' N'
          have hcl : x.cps.toList[i]? = some ch := by rw [Array.getElem?_toList]; exact hch
          have hst : ∀ k, Plain.col k (x.cps.toList.take (i + 1)) = (if ch = 32 then Plain.col k (x.cps.toList.take i) + 1 else (Plain.col k (x.cps.toList.take i) / k + 1) * k) := by
            intro k
            rw [List.take_add_one, hcl]
            simp [Plain.col, List.foldl_append]
          dsimp only at h1
          rcases hx ch (List.mem_of_getElem? hcl) with rfl | rfl
          · k_steps
            (rename Fr _ _ _ _ => gF); (rename News _ _ _ _ => gN)
            k_dflt (refine' SEnd.intro (c + 1, _) (List.forall_mem_cons.mpr ⟨?ps, List.forall_mem_nil _⟩) gF gN (fun p hp => List.mem_append_left own hp) (fun p hp => by (repeat (first | exact List.mem_append_right _ hp | refine List.mem_cons_of_mem _ ?_))) hI ?hz ?hP)
            case ps => with_unfolding_all exact (congrArg (fun v => some (Value.int v _)) (rfl : ((c : Int) + 1) = ((c + 1 : Nat) : Int)))
            case hz => (intro z h1 h2 h3; (have e1 := h2 _ (.head _)); clear h2; dsimp only at e1; simp only [if_neg h1, if_neg e1, kstB]; first | done | rfl)
            case hP => (rw [hst, h1]; rfl)
          · k_steps
            (rename Fr _ _ _ _ => gF); (rename News _ _ _ _ => gN)
            k_dflt (refine' SEnd.intro ((c / 4 + 1) * 4, _) (List.forall_mem_cons.mpr ⟨?ps, List.forall_mem_nil _⟩) gF gN (fun p hp => List.mem_append_left own hp) (fun p hp => by (repeat (first | exact List.mem_append_right _ hp | refine List.mem_cons_of_mem _ ?_))) hI ?hz ?hP)
            case ps => with_unfolding_all exact (congrArg (fun v => some (Value.int v _)) (cast_col c 4))
            case hz => (intro z h1 h2 h3; (have e1 := h2 _ (.head _)); clear h2; dsimp only at e1; simp only [if_neg h1, if_neg e1, kstB]; first | done | rfl)
            case hP => (rw [hst, h1]; rfl)
        · clear gF gN
          rintro ⟨c4, t4⟩ u h' tk e4 F' N'
          dsimp only at e4
          rw [show x.cps.toList.take x.cps.size = x.cps.toList from List.take_of_length_le (by simp)] at e4
          subst e4
          k_steps
          (rename Fr _ _ _ _ => gF); (rename News _ _ _ _ => gN)
          refine UnrEnd.intro gF gN _ (fun p hp => hp) ?off4 ?_
          case off4 => first | assumption | (refine List.forall_mem_cons.mpr ⟨?_, ?_⟩ <;> first | assumption | (refine allLt_ne ?_; first | assumption | exact And.right (by assumption)) | (refine Nat.ne_of_lt ?_; first | assumption | exact And.left (by assumption)) | (dsimp only; first | assumption | exact And.left (by assumption) | exact And.right (by assumption) | exact Ne.symm (by assumption)) | trace_state)
          clear gF gN
          k_steps
          unfold Hold
          (rename Fr _ _ _ _ => gF); (rename News _ _ _ _ => gN)
          k_dflt (refine' iter_strS (fun _ : Nat × Tok => _) (fun c => [(Str.ofString "column", .int (c.1 : Int) c.2)]) [] (fun i c => c.1 = Plain.col 5 (x.cps.toList.take i)) (0, _) (by rfl) gF gN (fun p hp => hp) ?hk ?hp ?_ ?_)
          case hk => (refine' List.forall_mem_cons.mpr ⟨?a, List.forall_mem_nil _⟩; (case a => with_unfolding_all exact rfl))
          case hp => rfl
          · clear gF gN
            rintro i ⟨c, tc⟩ ch t u h' tk own I oI hch h1 hI hmem hw F' N'
            have hcl : x.cps.toList[i]? = some ch := by rw [Array.getElem?_toList]; exact hch
            have hst : ∀ k, Plain.col k (x.cps.toList.take (i + 1)) = (if ch = 32 then Plain.col k (x.cps.toList.take i) + 1 else (Plain.col k (x.cps.toList.take i) / k + 1) * k) := by
              intro k
              rw [List.take_add_one, hcl]
              simp [Plain.col, List.foldl_append]
            dsimp only at h1
            rcases hx ch (List.mem_of_getElem? hcl) with rfl | rfl
            · k_steps
              (rename Fr _ _ _ _ => gF); (rename News _ _ _ _ => gN)
              k_dflt (refine' SEnd.intro (c + 1, _) (List.forall_mem_cons.mpr ⟨?ps, List.forall_mem_nil _⟩) gF gN (fun p hp => List.mem_append_left own hp) (fun p hp => by (repeat (first | exact List.mem_append_right _ hp | refine List.mem_cons_of_mem _ ?_))) hI ?hz ?hP)
              case ps => with_unfolding_all exact (congrArg (fun v => some (Value.int v _)) (rfl : ((c : Int) + 1) = ((c + 1 : Nat) : Int)))
              case hz => (intro z h1 h2 h3; (have e1 := h2 _ (.head _)); clear h2; dsimp only at e1; simp only [if_neg h1, if_neg e1, kstB]; first | done | rfl)
              case hP => (rw [hst, h1]; rfl)
            · k_steps
              (rename Fr _ _ _ _ => gF); (rename News _ _ _ _ => gN)
              k_dflt (refine' SEnd.intro ((c / 5 + 1) * 5, _) (List.forall_mem_cons.mpr ⟨?ps, List.forall_mem_nil _⟩) gF gN (fun p hp => List.mem_append_left own hp) (fun p hp => by (repeat (first | exact List.mem_append_right _ hp | refine List.mem_cons_of_mem _ ?_))) hI ?hz ?hP)
              case ps => with_unfolding_all exact (congrArg (fun v => some (Value.int v _)) (cast_col c 5))
              case hz => (intro z h1 h2 h3; (have e1 := h2 _ (.head _)); clear h2; dsimp only at e1; simp only [if_neg h1, if_neg e1, kstB]; first | done | rfl)
              case hP => (rw [hst, h1]; rfl)
          · clear gF gN
            rintro ⟨c5, t5⟩ u h' tk e5 F' N'
            dsimp only at e5
            rw [show x.cps.toList.take x.cps.size = x.cps.toList from List.take_of_length_le (by simp)] at e5
            subst e5
            k_steps
            (rename Fr _ _ _ _ => gF); (rename News _ _ _ _ => gN)
            refine UnrEnd.intro gF gN _ (fun p hp => hp) ?off5 ?_
            case off5 => first | assumption | (refine List.forall_mem_cons.mpr ⟨?_, ?_⟩ <;> first | assumption | (refine allLt_ne ?_; first | assumption | exact And.right (by assumption)) | (refine Nat.ne_of_lt ?_; first | assumption | exact And.left (by assumption)) | (dsimp only; first | assumption | exact And.left (by assumption) | exact And.right (by assumption) | exact Ne.symm (by assumption)) | trace_state)
            clear gF gN
            k_steps
            (rename News h₀ _ _ _ => kN); (rename Fr h₀ _ _ _ => kF)
            exact h _ _ _ _ _ _ _ _ _ kF kN (by assumption)
theorem all_cut : ∀ w p loose mean mg mb A₀ base h₀ L m cn cs ca ccd cl outer gd s R news x tx v_1 v_2 v_3 v_8 v_9 v_10 v_12 tk v_13 v_14 v_15 v_16 v_17 v_20 v_22 v_23 v_24 v_27, Pcut w p loose mean mg mb A₀ base h₀ L m cn cs ca ccd cl outer gd s R news x tx v_1 v_2 v_3 v_8 v_9 v_10 v_12 tk v_13 v_14 v_15 v_16 v_17 v_20 v_22 v_23 v_24 v_27 := by
  have h : Pcut w p loose mean mg mb A₀ base h₀ L m cn cs ca ccd cl outer gd s R news x tx v_1 v_2 v_3 v_8 v_9 v_10 v_12 tk v_13 v_14 v_15 v_16 v_17 v_20 v_22 v_23 v_24 v_27 := at_cut
  delta w p loose mean mg mb A₀ base h₀ L m cn cs ca ccd cl outer gd s R news x tx v_1 v_2 v_3 v_8 v_9 v_10 v_12 tk v_13 v_14 v_15 v_16 v_17 v_20 v_22 v_23 v_24 v_27 at h
  exact fun w p loose mean mg mb A₀ base h₀ L m cn cs ca ccd cl outer gd s R news x tx v_1 v_2 v_3 v_8 v_9 v_10 v_12 tk v_13 v_14 v_15 v_16 v_17 v_20 v_22 v_23 v_24 v_27 => Classical.choose_spec ex_cut h ((w, p, loose, mean, mg, mb, A₀), (base, h₀, L, m, cn, cs, ca), (ccd, cl, outer, gd, s, R, news), (x, tx, v_1, v_2, v_3, v_8, v_9), (v_10, v_12, tk, v_13, v_14, v_15, v_16), (v_17, v_20, v_22, v_23, v_24, v_27))
end K_columns_spec
theorem columns_spec : type_of% (@Subtype.property _ _ K_columns_spec.cut (no_implicit_lambda% K_columns_spec.all_cut)) := no_implicit_lambda% (@Subtype.property _ _ K_columns_spec.cut (no_implicit_lambda% K_columns_spec.all_cut))
end Mine
end
section
open PySem PySem.W PyProof.Rows
namespace Mine
theorem rowc_len (l : List Nat) : (rowc l).length ≤ 2 * l.length + 1 := by
  induction l with
  | nil => simp [rowc]
  | cons a r ih =>
    rw [rowc_cons, List.length_append, List.length_cons]
    have : (escc a).length ≤ 2 := by unfold escc; split <;> simp
    omega
theorem textOf_len {z : Five} (h : FiveFit z) : (textOf z).length ≤ 200 := by
  have row : ∀ (l : List Nat) (n : Nat), LeadFit l → (rowText l n).length ≤ 19 := fun l n hl => by
    have h1 := rowc_len (l ++ [n])
    have h2 : l.length ≤ 8 := hl.2.2.2.2.2.1
    rw [List.length_append, List.length_singleton] at h1
    unfold rowText
    omega
  have ha := row z.a 97 h.a
  have hb := row z.b 98 h.b
  have hc := row z.c 99 h.c
  have hd := row z.d 100 h.d
  have he := row z.e 101 h.e
  unfold textOf
  simp only [List.length_append, List.length_nil]
  omega
end Mine
end
section
open PySem PySem.W PyProof.Rows PySem.Spec PySem.Calls
set_option maxRecDepth 100000
namespace Mine
section
variable {prog : Program} {w : World} {A : Around} {E : Value → Shared → Prop} {s : Shared} {env : Env} {h₀ : Heap} {x : Str} {body : List Stmt} {Q : Flow → Shared → Prop}
/-- the loop at hand, its name a cell -/
noncomputable def LoopC (prog : Program) (w : World) (A : Around) (env : Env) (x : Str) (px : Pos) (body : List Stmt) (Q : Flow → Shared → Prop) (E : Value → Shared → Prop) (it : Value) (s₂ : Shared) : Prop :=
  codeAny (model prog w) A (.forLoop (.Name x px) it body [] env) (fun r s' => match r with | .ok f => Q f s' | .error e => cameBackBy (model prog w) A env E e s') s₂
theorem For_cell {px pos : Pos} {iter : Expr} (h : wpAny (model prog w) A (eval iter env) (fun xv s₁ => wpAny (model prog w) A (pyIter xv) (LoopC prog w A env x px body Q E) E s₁) E s)
    (hs : ∀ x, foldedSetIterable iter env x = pure x := by intro _; rfl) : wpAny (model prog w) A (exec (.For (.Name x px) iter body [] pos) env) Q E s :=
  wpAny_For h hs
noncomputable def CEnd {σ : Type} (h₀ : Heap) (L c : Addr) (Led : σ → List (Addr × Obj)) (ps : σ → List (Str × Value)) (stored : List Str) (m₀ : Str → Option Value) (P : σ → Prop) (own : List (Addr × Obj)) (I : Addr) (s₁ s₂ : Shared) : Prop :=
  ∃ h' tk m' oc ov a, s₂ = { s₁ with heap := h', toks := tk } ∧ Fr h₀ L h' m' ∧ News h₀ L h' ((c, oc) :: (Led a ++ own)) ∧ oc.data = .cell ov ∧ (∀ p ∈ (c, oc) :: Led a, p.1 ≠ I) ∧ (∀ p ∈ ps a, m' p.1 = some p.2) ∧ (∀ z, (∀ p ∈ ps a, z ≠ p.1) → stored.contains z = false → m' z = m₀ z) ∧ P a
noncomputable def CPost {σ : Type} (h₀ : Heap) (L c : Addr) (Led : σ → List (Addr × Obj)) (ps : σ → List (Str × Value)) (stored : List Str) (m₀ : Str → Option Value) (P : σ → Prop) (own : List (Addr × Obj)) (I : Addr) (s₁ : Shared) (Q : Flow → Shared → Prop) (f : Flow) (s₂ : Shared) : Prop :=
  match f with
  | .ret v => Q (.ret v) s₂
  | .brk => Q .next s₂
  | _ => CEnd h₀ L c Led ps stored m₀ P own I s₁ s₂
theorem CEnd.intro {σ : Type} {L c : Addr} {Led : σ → List (Addr × Obj)} {ps : σ → List (Str × Value)} {stored : List Str} {m₀ m' : Str → Option Value} {P : σ → Prop} {own news : List (Addr × Obj)} {I : Addr} {s₁ : Shared} {h' : Heap} {tk : Nat} {oc : Obj} {ov : Option Value} (a : σ)
    (hc : (c, oc) ∈ news) (hd : oc.data = .cell ov) (hcI : @Ne Nat c I) (hp : ∀ p ∈ ps a, m' p.1 = some p.2) (F : Fr h₀ L h' m') (N : News h₀ L h' news) (hl : ∀ p ∈ Led a, p ∈ news) (ho : ∀ p ∈ own, p ∈ news) (hI : ∀ p ∈ Led a, p.1 ≠ I) (hz : ∀ z, (∀ p ∈ ps a, z ≠ p.1) → stored.contains z = false → m' z = m₀ z) (hP : P a) :
    CEnd h₀ L c Led ps stored m₀ P own I s₁ { s₁ with heap := h', toks := tk } :=
  ⟨h', tk, m', oc, ov, a, rfl, F, (fun p hq => N p ((List.mem_cons.mp hq).elim (fun e => e ▸ hc) fun hq => (List.mem_append.mp hq).elim (hl p) (ho p))), hd, (fun p hq => (List.mem_cons.mp hq).elim (fun e => e ▸ hcI) (hI p)), hp, hz, hP⟩
/-- a map that says ps and, beside them and the stored names, what m₀ says -/
theorem map_kst {m' m₀ : Str → Option Value} {ps : List (Str × Value)} {stored : List Str} (hp : ∀ p ∈ ps, m' p.1 = some p.2) (hz : ∀ z, (∀ p ∈ ps, z ≠ p.1) → stored.contains z = false → m' z = m₀ z) : m' = kstB (fun z => if stored.contains z then m' z else m₀ z) ps := by
  funext y
  have key : ∀ (qs : List (Str × Value)), (∀ p ∈ qs, p ∈ ps) → kstB (fun z => if stored.contains z then m' z else m₀ z) qs y = if (∃ p ∈ qs, y = p.1) then m' y else (if stored.contains y then m' y else m₀ y) := by
    intro qs
    induction qs with
    | nil => intro _; simp [kstB]
    | cons q r ih =>
      intro h
      rw [kstB]
      dsimp only
      by_cases e : y = q.1
      · rw [if_pos e, if_pos ⟨q, List.mem_cons_self, e⟩, e]
        exact (hp q (h q List.mem_cons_self)).symm
      · rw [if_neg e, ih fun p hp => h p (List.mem_cons_of_mem _ hp)]
        have : (∃ p ∈ q :: r, y = p.1) ↔ ∃ p ∈ r, y = p.1 := by
          constructor
          · rintro ⟨p, hp, e'⟩
            rcases List.mem_cons.mp hp with rfl | hp
            · exact absurd e' e
            · exact ⟨p, hp, e'⟩
          · rintro ⟨p, hp, e'⟩
            exact ⟨p, List.mem_cons_of_mem _ hp, e'⟩
        simp only [this]
  rw [key ps fun p hp => hp]
  by_cases e : ∃ p ∈ ps, y = p.1
  · rw [if_pos e]
  · rw [if_neg e]
    by_cases e2 : stored.contains y = true
    · rw [if_pos e2]
    · rw [if_neg e2]
      refine hz y (fun p hp q => e ⟨p, hp, q⟩) (by simpa using e2)
end
namespace K_loopC_S
noncomputable def cut : (@Subtype Prop fun P => P → ∀ {prog : Program} {w : World} {A : Around} {E : Value → Shared → Prop} {s : Shared} {env : Env} {h₀ : Heap} {x : Str} {body : List Stmt} {Q : Flow → Shared → Prop} {σ : Type} {px : Pos} {L c I : Addr} {n : Nat} {PV : Nat → Value → Prop} {St : Nat → Heap → Prop} {fp : List Addr} {m₀ : Str → Option Value} {news : List (Addr × Obj)} {oc : Obj} {ov : Option Value} (Led : σ → List (Addr × Obj)) (ps : σ → List (Str × Value)) (stored : List Str) (P : Nat → σ → Prop) (a₀ : σ) (W : Walks prog w A I fp [I] n PV St) (hob : ∀ i h, St i h → ∃ o, h.get? I = some o) (hSt : ∀ i h h' o nw, St i h → h.get? I = some o → h'.get? I = some o → News h₀ L h' nw → (∀ b o, h₀.get? b = some o → h'.get? b = some o) → (∃ a j, P j a ∧ ∀ p ∈ Led a, p ∈ nw) → St i h') (hcf : c ∉ fp) (hI0 : h₀.get? I = none) (hIL : L ≠ I) (hkind : env.scope.kind = .function) (hx : env.kindOf x = some .cell) (hcx : env.cells.lookup x = some c) (hst : St 0 s.heap) (F : Fr h₀ L s.heap m₀) (N : News h₀ L s.heap news) (hc : (c, oc) ∈ news) (hd : oc.data = .cell ov) (hl : ∀ p ∈ Led a₀, p ∈ news) (hlI : ∀ p ∈ Led a₀, p.1 ≠ I) (hlc : ∀ i a, P i a → ∀ p ∈ Led a, p.1 ≠ c) (hk : ∀ p ∈ ps a₀, m₀ p.1 = some p.2) (hp : P 0 a₀) (turn : ∀ i (a : σ) v oc (u : Str → Option Value) h tk oI (E : Value → Shared → Prop), i < n → PV i v → P i a → (∀ p ∈ Led a, p.1 ≠ I) → oc.data = .cell (some v) → Fr h₀ L h (kstB (fun z => if stored.contains z then u z else m₀ z) (ps a)) → News h₀ L h ((c, oc) :: (Led a ++ [(I, oI)])) →
      PassesOwn (model prog w) A env E → wpAny (model prog w) A (execs body env) (CPost h₀ L c Led ps stored m₀ (P (i + 1)) [(I, oI)] I { s with heap := h, toks := tk } Q) E { s with heap := h, toks := tk }) (done : ∀ (a : σ) oc ov (u : Str → Option Value) h tk, P n a → oc.data = .cell ov → Fr h₀ L h (kstB (fun z => if stored.contains z then u z else m₀ z) (ps a)) → News h₀ L h ((c, oc) :: Led a) → Q .next { s with heap := h, toks := tk }) (hE : PassesOwn (model prog w) A env E), LoopC prog w A env x px body Q E (.ref I) s) := by
  refine' mkCut fun hole => ?_
  rotate_left
  focus
  intro prog w A E s env h₀ x body Q σ px L c I n PV St fp m₀ news oc ov Led ps stored P a₀ W hob hSt hcf hI0 hIL hkind hx hcx hst F N hc hd hl hlI hlc hk hp turn done hE
  revert W hob hSt hcf hI0 hIL hkind hx hcx hst F N hc hd hl hlI hlc hk hp turn done hE
  revert σ Led ps P a₀
  revert prog w A E s env h₀ x body Q px L c I n PV St fp m₀ news oc ov stored
  exact no_implicit_lambda% hole.get
noncomputable section
noncomputable def Pcut : (Program) → (World) → (Around) → (Value → Shared → Prop) → (Shared) → (Env) → (Heap) → (Str) → (List Stmt) → (Flow → Shared → Prop) → (Pos) → (Addr) → (Addr) → (Addr) → (Nat) → (Nat → Value → Prop) → (Nat → Heap → Prop) → (List Addr) → (Str → Option Value) → (List (Addr × Obj)) → (Obj) → (Option Value) → (List Str) → Prop := (@id (∀ {Rcut : (Program) → (World) → (Around) → (Value → Shared → Prop) → (Shared) → (Env) → (Heap) → (Str) → (List Stmt) → (Flow → Shared → Prop) → (Pos) → (Addr) → (Addr) → (Addr) → (Nat) → (Nat → Value → Prop) → (Nat → Heap → Prop) → (List Addr) → (Str → Option Value) → (List (Addr × Obj)) → (Obj) → (Option Value) → (List Str) → Prop}, cut.1 = (∀ prog w A E s env h₀ x body Q px L c I n PV St fp m₀ news oc ov stored, Rcut prog w A E s env h₀ x body Q px L c I n PV St fp m₀ news oc ov stored) → _) fun {Rcut} _ => Rcut) rfl
noncomputable def Tcut : Type := (Program × World × Around × (Value → Shared → Prop) × Shared) × (Env × Heap × Str × (List Stmt) × (Flow → Shared → Prop)) × (Pos × Addr × Addr × Addr × Nat) × ((Nat → Value → Prop) × (Nat → Heap → Prop) × (List Addr) × (Str → Option Value) × (List (Addr × Obj))) × (Obj × (Option Value) × (List Str))
noncomputable def Qcut (x : Tcut) : Prop := Pcut x.1.1 x.1.2.1 x.1.2.2.1 x.1.2.2.2.1 x.1.2.2.2.2 x.2.1.1 x.2.1.2.1 x.2.1.2.2.1 x.2.1.2.2.2.1 x.2.1.2.2.2.2 x.2.2.1.1 x.2.2.1.2.1 x.2.2.1.2.2.1 x.2.2.1.2.2.2.1 x.2.2.1.2.2.2.2 x.2.2.2.1.1 x.2.2.2.1.2.1 x.2.2.2.1.2.2.1 x.2.2.2.1.2.2.2.1 x.2.2.2.1.2.2.2.2 x.2.2.2.2.1 x.2.2.2.2.2.1 x.2.2.2.2.2.2
theorem ex_cut : ∃ x : Tcut, Qcut x → ∀ y, Qcut y := by
  haveI := neW; haveI := neA; haveI := neS
  haveI : Nonempty Tcut := by unfold Tcut; set_option synthInstance.maxSize 2000 in infer_instance
  exact henk1 Qcut
noncomputable def Ccut : Tcut := Classical.choose ex_cut
@[irreducible] noncomputable def prog : Program := Ccut.1.1
@[irreducible] noncomputable def w : World := Ccut.1.2.1
@[irreducible] noncomputable def A : Around := Ccut.1.2.2.1
@[irreducible] noncomputable def E : Value → Shared → Prop := Ccut.1.2.2.2.1
@[irreducible] noncomputable def s : Shared := Ccut.1.2.2.2.2
@[irreducible] noncomputable def env : Env := Ccut.2.1.1
@[irreducible] noncomputable def h₀ : Heap := Ccut.2.1.2.1
@[irreducible] noncomputable def x : Str := Ccut.2.1.2.2.1
@[irreducible] noncomputable def body : List Stmt := Ccut.2.1.2.2.2.1
@[irreducible] noncomputable def Q : Flow → Shared → Prop := Ccut.2.1.2.2.2.2
@[irreducible] noncomputable def px : Pos := Ccut.2.2.1.1
@[irreducible] noncomputable def L : Addr := Ccut.2.2.1.2.1
@[irreducible] noncomputable def c : Addr := Ccut.2.2.1.2.2.1
@[irreducible] noncomputable def I : Addr := Ccut.2.2.1.2.2.2.1
@[irreducible] noncomputable def n : Nat := Ccut.2.2.1.2.2.2.2
@[irreducible] noncomputable def PV : Nat → Value → Prop := Ccut.2.2.2.1.1
@[irreducible] noncomputable def St : Nat → Heap → Prop := Ccut.2.2.2.1.2.1
@[irreducible] noncomputable def fp : List Addr := Ccut.2.2.2.1.2.2.1
@[irreducible] noncomputable def m₀ : Str → Option Value := Ccut.2.2.2.1.2.2.2.1
@[irreducible] noncomputable def news : List (Addr × Obj) := Ccut.2.2.2.1.2.2.2.2
@[irreducible] noncomputable def oc : Obj := Ccut.2.2.2.2.1
@[irreducible] noncomputable def ov : Option Value := Ccut.2.2.2.2.2.1
@[irreducible] noncomputable def stored : List Str := Ccut.2.2.2.2.2.2
end
theorem at_cut : Pcut prog w A E s env h₀ x body Q px L c I n PV St fp m₀ news oc ov stored := by
  intro σ Led ps P a₀ W hob hSt hcf hI0 hIL hkind hx hcx hst F N hc hd hl hlI hlc hk hp turn done hE
  have hIf : I ∈ fp := W.sub I (List.mem_singleton.mpr rfl)
  have hcI : @Ne Nat c I := fun e => hcf (e ▸ hIf)
  unfold LoopC
  refine codeAny_forLoop
    (fun k s' => ∃ h' tk m' oc ov a i, s' = { s with heap := h', toks := tk } ∧ St i h' ∧ Fr h₀ L h' m' ∧ News h₀ L h' ((c, oc) :: Led a) ∧ oc.data = .cell ov ∧ (∀ p ∈ Led a, p.1 ≠ I) ∧ (∀ p ∈ ps a, m' p.1 = some p.2) ∧ (∀ z, (∀ p ∈ ps a, z ≠ p.1) → stored.contains z = false → m' z = m₀ z) ∧ P i a ∧ i ≤ n ∧ k = n + 1 - i) ?_ (n + 1)
    ⟨s.heap, s.toks, m₀, oc, ov, a₀, 0, rfl, hst, F, (fun p hq => N p ((List.mem_cons.mp hq).elim (fun e => e ▸ hc) (hl p))), hd, hlI, hk, fun _ _ _ => rfl, hp, Nat.zero_le _, rfl⟩
  rintro k s' ⟨h', tk, m', oc', ov', a, i, rfl, hst', F', N', hd', hI', hk', hz', hP, hi, rfl⟩
  have zc := N' _ (.head _)
  by_cases hlt : i < n
  · refine W.item i _ _ _ hlt hst' fun v h₁ tk₁ hPv hst₁ hk₁ => ?_
    have F₁ : Fr h₀ L h₁ m' := LCg.fr_but F' hk₁ hIL hI0
    have N₁ := LCg.news_but N' hk₁ (fun p hq => (List.mem_cons.mp hq).elim (fun e => e ▸ hcI) (hI' p))
    have hcc : h₁.IsCell c ov' := ⟨oc', (N₁ _ (.head _)).1, hd'⟩
    refine wpAny_assign_Name (wpAny_storeName_cell hkind hx hcx hcc fun h₂ hc₂ hs₂ => ?_)
    obtain ⟨oc₂, ec₂, dc₂⟩ := hc₂
    have F₂ : Fr h₀ L h₂ m' := F₁.change hs₂ zc.2.1 zc.2.2
    have hst₂ : St (i + 1) h₂ := W.frame _ _ _ hst₁ fun b hb o e => (hs₂.2 b fun q => hcf (q ▸ hb)).trans e
    obtain ⟨oI, eI⟩ := hob _ _ hst₂
    have NL : News h₀ L h₂ (Led a) := fun p hq => ⟨(hs₂.2 p.1 (hlc i a hP p hq)).trans (N₁ p (.tail _ hq)).1, (N₁ p (.tail _ hq)).2⟩
    have N₂ : News h₀ L h₂ ((c, oc₂) :: (Led a ++ [(I, oI)])) := fun p hq => by
      rcases List.mem_cons.mp hq with rfl | hq
      · exact ⟨ec₂, zc.2⟩
      · rcases List.mem_append.mp hq with hq | hq
        · exact NL p hq
        · rw [List.mem_singleton.mp hq]
          exact ⟨eI, Ne.symm hIL, hI0⟩
    have em := map_kst hk' hz'
    rw [em] at F₂
    refine wpAny_passesOwn hE ?_
    refine wpAny_mono (turn i a v oc₂ m' h₂ tk₁ oI E hlt hPv hP hI' dc₂ F₂ N₂ hE) (fun f s₃ q => ?_) fun _ _ e => e
    have up : CEnd h₀ L c Led ps stored m₀ (P (i + 1)) [(I, oI)] I { s with heap := h₂, toks := tk₁ } s₃ → ∃ k', k' < n + 1 - i ∧ ∃ h' tk m' oc ov a i, s₃ = { s with heap := h', toks := tk } ∧ St i h' ∧ Fr h₀ L h' m' ∧ News h₀ L h' ((c, oc) :: Led a) ∧ oc.data = .cell ov ∧ (∀ p ∈ Led a, p.1 ≠ I) ∧ (∀ p ∈ ps a, m' p.1 = some p.2) ∧ (∀ z, (∀ p ∈ ps a, z ≠ p.1) → stored.contains z = false → m' z = m₀ z) ∧ P i a ∧ i ≤ n ∧ k' = n + 1 - i := by
      rintro ⟨h₃, tk₃, m₃, oc₃, ov₃, a₃, rfl, F₃, N₃, d₃, I₃, k₃, z₃, P₃⟩
      have zI := N₃ (I, oI) (.tail _ (List.mem_append_right _ (.head _)))
      have N₃' : News h₀ L h₃ ((c, oc₃) :: Led a₃) := fun p hq => N₃ p ((List.mem_cons.mp hq).elim (fun e => e ▸ .head _) fun hq => .tail _ (List.mem_append_left _ hq))
      exact ⟨n + 1 - (i + 1), by omega, h₃, tk₃, m₃, oc₃, ov₃, a₃, i + 1, rfl, hSt _ _ _ _ _ hst₂ eI zI.1 N₃' F₃.keep ⟨a₃, _, P₃, fun p hq => .tail _ hq⟩, F₃, N₃', d₃, (fun p hq => I₃ p (.tail _ hq)), k₃, z₃, P₃, hlt, rfl⟩
    cases f with
    | ret v => exact q
    | brk => exact q
    | next => exact up q
    | cont => exact up q
  · obtain rfl : i = n := by omega
    refine W.done _ _ _ hst' fun h₁ tk₁ hk₁ => wpAny_execs_nil ?_
    have F₁ : Fr h₀ L h₁ m' := LCg.fr_but F' hk₁ hIL hI0
    have N₁ := LCg.news_but N' hk₁ (fun p hq => (List.mem_cons.mp hq).elim (fun e => e ▸ hcI) (hI' p))
    rw [map_kst hk' hz'] at F₁
    exact done a oc' ov' m' h₁ tk₁ hP hd' F₁ N₁
theorem all_cut : ∀ prog w A E s env h₀ x body Q px L c I n PV St fp m₀ news oc ov stored, Pcut prog w A E s env h₀ x body Q px L c I n PV St fp m₀ news oc ov stored := by
  have h : Pcut prog w A E s env h₀ x body Q px L c I n PV St fp m₀ news oc ov stored := at_cut
  delta prog w A E s env h₀ x body Q px L c I n PV St fp m₀ news oc ov stored at h
  exact fun prog w A E s env h₀ x body Q px L c I n PV St fp m₀ news oc ov stored => Classical.choose_spec ex_cut h ((prog, w, A, E, s), (env, h₀, x, body, Q), (px, L, c, I, n), (PV, St, fp, m₀, news), (oc, ov, stored))
end K_loopC_S
theorem loopC_S {prog : Program} {w : World} {A : Around} {E : Value → Shared → Prop} {s : Shared} {env : Env} {h₀ : Heap} {x : Str} {body : List Stmt} {Q : Flow → Shared → Prop} {σ : Type} {px : Pos} {L c I : Addr} {n : Nat} {PV : Nat → Value → Prop} {St : Nat → Heap → Prop} {fp : List Addr} {m₀ : Str → Option Value} {news : List (Addr × Obj)} {oc : Obj} {ov : Option Value} (Led : σ → List (Addr × Obj)) (ps : σ → List (Str × Value)) (stored : List Str) (P : Nat → σ → Prop) (a₀ : σ)
    (W : Walks prog w A I fp [I] n PV St) (hob : ∀ i h, St i h → ∃ o, h.get? I = some o)
    (hSt : ∀ i h h' o nw, St i h → h.get? I = some o → h'.get? I = some o → News h₀ L h' nw → (∀ b o, h₀.get? b = some o → h'.get? b = some o) → (∃ a j, P j a ∧ ∀ p ∈ Led a, p ∈ nw) → St i h')
    (hcf : c ∉ fp) (hI0 : h₀.get? I = none) (hIL : L ≠ I)
    (hkind : env.scope.kind = .function) (hx : env.kindOf x = some .cell) (hcx : env.cells.lookup x = some c)
    (hst : St 0 s.heap) (F : Fr h₀ L s.heap m₀) (N : News h₀ L s.heap news) (hc : (c, oc) ∈ news) (hd : oc.data = .cell ov) (hl : ∀ p ∈ Led a₀, p ∈ news) (hlI : ∀ p ∈ Led a₀, p.1 ≠ I) (hlc : ∀ i a, P i a → ∀ p ∈ Led a, p.1 ≠ c) (hk : ∀ p ∈ ps a₀, m₀ p.1 = some p.2) (hp : P 0 a₀)
    (turn : ∀ i (a : σ) v oc (u : Str → Option Value) h tk oI (E : Value → Shared → Prop), i < n → PV i v → P i a → (∀ p ∈ Led a, p.1 ≠ I) → oc.data = .cell (some v) → Fr h₀ L h (kstB (fun z => if stored.contains z then u z else m₀ z) (ps a)) → News h₀ L h ((c, oc) :: (Led a ++ [(I, oI)])) →
      PassesOwn (model prog w) A env E → wpAny (model prog w) A (execs body env) (CPost h₀ L c Led ps stored m₀ (P (i + 1)) [(I, oI)] I { s with heap := h, toks := tk } Q) E { s with heap := h, toks := tk })
    (done : ∀ (a : σ) oc ov (u : Str → Option Value) h tk, P n a → oc.data = .cell ov → Fr h₀ L h (kstB (fun z => if stored.contains z then u z else m₀ z) (ps a)) → News h₀ L h ((c, oc) :: Led a) → Q .next { s with heap := h, toks := tk })
    (hE : PassesOwn (model prog w) A env E := by passes_own) :
    LoopC prog w A env x px body Q E (.ref I) s := K_loopC_S.cut.2 (no_implicit_lambda% K_loopC_S.all_cut)              Led ps stored P a₀ W hob hSt hcf hI0 hIL hkind hx hcx hst F N hc hd hl hlI hlc hk hp turn done hE
section
variable {prog : Program} {w : World} {A : Around} {E : Value → Shared → Prop} {s : Shared} {env : Env} {h₀ : Heap} {x : Str} {body : List Stmt} {Q : Flow → Shared → Prop}
end
end Mine
end
section
open PySem PySem.W PyProof.Rows PySem.Spec PySem.Calls
set_option maxRecDepth 100000
namespace Mine
section
variable {prog : Program} {w : World} {A : Around} {E : Value → Shared → Prop} {s : Shared} {env : Env} {h₀ : Heap} {x : Str} {body : List Stmt}
theorem iter_strC {σ : Type} {Q : Flow → Shared → Prop} {px : Pos} {L c : Addr} {m₀ : Str → Option Value} {news : List (Addr × Obj)} {oc : Obj} {ov : Option Value} {xt : Str} {tx : Tok} (Led : σ → List (Addr × Obj)) (ps : σ → List (Str × Value)) (stored : List Str) (P : Nat → σ → Prop) (a₀ : σ)
    (hh : A.handled = none) (hkind : env.scope.kind = .function) (hx : env.kindOf x = some .cell) (hcx : env.cells.lookup x = some c)
    (F : Fr h₀ L s.heap m₀) (N : News h₀ L s.heap news) (hc : (c, oc) ∈ news) (hd : oc.data = .cell ov) (hl : ∀ p ∈ Led a₀, p ∈ news) (hlc : ∀ i a, P i a → ∀ p ∈ Led a, p.1 ≠ c) (hk : ∀ p ∈ ps a₀, m₀ p.1 = some p.2) (hp : P 0 a₀)
    (turn : ∀ i (a : σ) ch t oc (u : Str → Option Value) h tk I oI (E : Value → Shared → Prop), xt.cps[i]? = some ch → P i a → (∀ p ∈ Led a, p.1 ≠ I) → @Ne Nat c I → oc.data = .cell (some (.str ⟨#[ch]⟩ t)) → Fr h₀ L h (kstB (fun z => if stored.contains z then u z else m₀ z) (ps a)) → News h₀ L h ((c, oc) :: (Led a ++ [(I, oI)])) →
      PassesOwn (model prog w) A env E → wpAny (model prog w) A (execs body env) (CPost h₀ L c Led ps stored m₀ (P (i + 1)) [(I, oI)] I { s with heap := h, toks := tk } Q) E { s with heap := h, toks := tk })
    (done : ∀ (a : σ) oc ov (u : Str → Option Value) h tk, P xt.cps.size a → oc.data = .cell ov → Fr h₀ L h (kstB (fun z => if stored.contains z then u z else m₀ z) (ps a)) → News h₀ L h ((c, oc) :: Led a) → Q .next { s with heap := h, toks := tk })
    (hE : PassesOwn (model prog w) A env E := by passes_own) :
    wpAny (model prog w) A (pyIter (.str xt tx)) (LoopC prog w A env x px body Q E) E s := by
  have key : ∀ (o : Obj) (St : Nat → Heap → Prop), Walks prog w A s.heap.objs.size [s.heap.objs.size] [s.heap.objs.size] xt.cps.size (SignAt xt) St → (∀ i h, St i h → ∃ o, h.get? s.heap.objs.size = some o) → (∀ i h h' o, St i h → h.get? s.heap.objs.size = some o → h'.get? s.heap.objs.size = some o → St i h') → St 0 (s.heap.push o) →
      LoopC prog w A env x px body Q E (.ref s.heap.objs.size) { s with heap := s.heap.push o } := by
    intro o St W hob hSt hst
    have hcI : @Ne Nat c s.heap.objs.size := Nat.ne_of_lt (Heap.lt_size (N _ hc).1)
    refine loopC_S Led ps stored P a₀ W hob (fun i h h' o nw st e e' _ _ _ => hSt i h h' o st e e') (fun hm => hcI (List.mem_singleton.mp hm)) (next_is_new F) (Nat.ne_of_lt F.ns.lt) hkind hx hcx hst (F.push _) (fun p hp => ⟨Heap.get?_push_of_some _ (N p hp).1, (N p hp).2⟩) hc hd hl (fun p hp => Nat.ne_of_lt (Heap.lt_size (N p (hl p hp)).1)) hlc hk hp ?_ ?_ hE
    · rintro i a v oc' u h tk oI E' hi ⟨ch, t, hch, rfl⟩ hP hI hoc F' N' hE'
      exact turn i a ch t oc' u h tk _ oI E' hch hP hI hcI hoc F' N' hE'
    · intro a oc' ov' u h tk hP hoc F' N'
      exact done a oc' ov' u h tk hP hoc F' N'
  cases ha : xt.cps.all (· < 128)
  · exact wpAny_pyIter_wide ha (key _ _ (Walks.strWide hh _ xt tx) (fun _ _ st => let ⟨o, ho, _⟩ := st; ⟨o, ho⟩) (fun i h h' o st e e' => by obtain ⟨o', q, r⟩ := st; rw [e] at q; cases q; exact ⟨o, e', r⟩) ⟨_, Heap.get?_push_size _ rfl, rfl, rfl⟩)
  · exact wpAny_pyIter_ascii ha (key _ _ (Walks.strAscii hh _ xt tx) (fun _ _ st => let ⟨o, ho, _⟩ := st; ⟨o, ho⟩) (fun i h h' o st e e' => by obtain ⟨o', q, r⟩ := st; rw [e] at q; cases q; exact ⟨o, e', r⟩) ⟨_, Heap.get?_push_size _ rfl, rfl, rfl⟩)
variable {L : Addr} {m : Str → Option Value} {news : List (Addr × Obj)} {Q : Value → Shared → Prop}
theorem add_listsK {a b : Addr} {vs us : List Value} {k j : Nat} (F : Fr h₀ L s.heap m) (N : News h₀ L s.heap news) (ha : (a, W.listOf vs.toArray k) ∈ news) (hb : (b, W.listOf us.toArray j) ∈ news) (hz : vs.length + us.length ≤ 100)
    (h : ∀ D h', Fr h₀ L h' m → News h₀ L h' ((D, W.listOf (vs ++ us).toArray 0) :: news) → (∀ p ∈ news, p.1 < D) → Q (.ref D) { s with heap := h' }) :
    wpAny (model prog w) A (binaryOp .Add (.ref a) (.ref b)) Q E s :=
  add_lists F N ⟨_, (N _ ha).1, rfl, k, rfl⟩ ⟨_, (N _ hb).1, rfl, j, rfl⟩ (fun h' F' N' => h _ h' F' N' fun p hp => Heap.lt_size (N p hp).1) (by rw [sizeLine_eq]; omega)
theorem sorted_strK {a : Addr} {vs : List Value} {ss : List Str} {k : Nat} (F : Fr h₀ L s.heap m) (N : News h₀ L s.heap news) (ha : (a, W.listOf vs.toArray k) ∈ news) (hS : StrsAre vs ss) (hz : vs.length < 64)
    (h : ∀ D h' vs' ss' e, Fr h₀ L h' m → News h₀ L h' ((D, W.listOf (List.toArray vs') e) :: news) → (∀ p ∈ news, p.1 < D) → StrsAre vs' ss' → ss'.Perm ss → sortedS ss' = true → Q (.ref D) { s with heap := h' }) :
    wpAny (model prog w) A (call (.builtin "sorted") [.ref a]) Q E s :=
  sorted_N_str F N ⟨_, (N _ ha).1, rfl, k, rfl⟩ hS hz fun h' vs' ss' e F' N' a1 a2 a3 => h _ h' vs' ss' e F' N' (fun p hp => Nat.lt_succ_of_lt (Heap.lt_size (N p hp).1)) a1 a2 a3
theorem strs_canLay : ∀ ss : List Str, PyData.canLayAll0 (ss.map PyData.str) = ss.all PyData.strOk := by
  intro ss
  induction ss with
  | nil => rfl
  | cons a r ih => simp [PyData.canLayAll0, PyData.canLay0, ih]
theorem strs_depth : ∀ ss : List Str, PyData.depthAll (ss.map PyData.str) = 0 := by
  intro ss
  induction ss with
  | nil => rfl
  | cons a r ih => simp [PyData.depthAll, PyData.depth, ih]
theorem strs_shaped {ss : List Str} (h : ss.all PyData.strOk = true) : SeqAt.shaped (.list (ss.map PyData.str)) = true := by
  simp [SeqAt.shaped, PyData.canLay0, PyData.depth, strs_canLay, strs_depth]
  simpa using h
theorem strs_sameAll : ∀ ns ms : List Str, PySem.Spec.sameAll (ns.map PyData.str) (ms.map PyData.str) = decide (ns = ms) := by
  intro ns
  induction ns with
  | nil =>
    intro ms
    cases ms with
    | nil => simp [PySem.Spec.sameAll]
    | cons _ _ => simp [PySem.Spec.sameAll]
  | cons a r ih =>
    intro ms
    cases ms with
    | nil => simp [PySem.Spec.sameAll]
    | cons b t =>
      simp only [List.map_cons, PySem.Spec.sameAll, PySem.Spec.same, ih t]
      by_cases h : a = b <;> by_cases h' : r = t <;> simp [h, h']
theorem strs_carried : ∀ {vs : List Value} {ns : List Str}, StrsAre vs ns → CarriedAll vs (ns.map PyData.str) := by
  intro vs ns h
  induction h with
  | nil => exact .nil
  | cons _ t _ ih => exact .cons (.str _ t) ih
theorem ne_strsK {a b : Addr} {xs ys : List Value} {ns ms : List Str} {k j : Nat} (N : News h₀ L s.heap news) (ha : (a, W.listOf xs.toArray k) ∈ news) (hb : (b, W.listOf ys.toArray j) ∈ news) (hi : StrsAre xs ns) (hj : StrsAre ys ms) (o1 : ns.all PyData.strOk = true) (o2 : ms.all PyData.strOk = true) (hu : A.units + 64 < cLine) (h : Q (.bool (!decide (ns = ms))) s) :
    wpAny (model prog w) A (compareOp .NotEq (.ref a) (.ref b)) Q E s :=
  ne_dataH_same (reads_newData ⟨_, (N _ ha).1, rfl, k, rfl⟩ (strs_carried hi)) (reads_newData ⟨_, (N _ hb).1, rfl, j, rfl⟩ (strs_carried hj)) (strs_shaped o1) (strs_shaped o2) hu (SeqAt.noMix_of_shape (.list .str) rfl _ _ (list_map_has fun _ => rfl) (list_map_has fun _ => rfl)) (by
    rw [show PySem.Spec.same (.list (ns.map PyData.str)) (.list (ms.map PyData.str)) = decide (ns = ms) from by simp only [PySem.Spec.same]; exact strs_sameAll ns ms]; exact h)
end
end Mine
end
section
open PySem PySem.W PyProof.Rows PySem.Spec PySem.Calls
set_option maxRecDepth 100000
namespace Mine
noncomputable abbrev sgn (c : Nat) : Str := ⟨#[c]⟩
theorem ChAre.strs {vs : List Value} {l : List Nat} (h : ChAre vs l) : StrsAre vs (l.map sgn) := by
  induction h with
  | nil => exact .nil
  | cons c t _ ih => exact .cons _ t ih
theorem ChAre.app {vs us : List Value} {l r : List Nat} (h : ChAre vs l) (h2 : ChAre us r) : ChAre (vs ++ us) (l ++ r) := by
  induction h with
  | nil => exact h2
  | cons c t _ ih => exact .cons c t ih
theorem signs_ok {l : List Nat} (h : ∀ c ∈ l, c < 0x110000) : (l.map sgn).all PyData.strOk = true := by
  rw [List.all_map]
  refine List.all_eq_true.mpr fun c hc => ?_
  simpa [PyData.strOk] using h c hc
theorem rising_signs : ∀ (l : List Nat) (p : Nat), risingS (sgn p) (l.map sgn) = true → ∀ c ∈ l.head?, p ≤ c := by
  intro l p h c hc
  cases l with
  | nil => simp at hc
  | cons a r =>
    simp only [List.map_cons, risingS, Bool.and_eq_true, Bool.not_eq_true'] at h
    have h1 := h.1
    simp only [List.head?_cons, Option.mem_def, Option.some.injEq] at hc
    subst hc
    simp [ltCps] at h1
    omega
theorem sorted_signs : ∀ (l : List Nat), sortedS (l.map sgn) = true → l.Pairwise (· ≤ ·) := by
  intro l
  induction l with
  | nil => exact fun _ => .nil
  | cons a r ih =>
    intro h
    cases r with
    | nil => exact .cons (fun _ h => by cases h) .nil
    | cons b r =>
      have h' : risingS (sgn a) ((b :: r).map sgn) = true := h
      have h1 := rising_signs (b :: r) a h' b (by simp)
      have h2 : sortedS ((b :: r).map sgn) = true := by
        simp only [List.map_cons, risingS, Bool.and_eq_true] at h'
        exact h'.2
      have ih := ih h2
      refine .cons (fun c hc => ?_) ih
      rcases List.mem_cons.mp hc with rfl | hc
      · exact h1
      · exact Nat.le_trans h1 ((List.pairwise_cons.mp ih).1 c hc)
/-- what is sorted of the signs of a rising list is that list -/
theorem signs_sorted {l r : List Nat} {ss : List Str} (hp : ss.Perm (r.map sgn)) (hr : r.Perm l) (hs : sortedS ss = true) (hl : l.Pairwise (· ≤ ·)) : ss = l.map sgn := by
  have hg : (ss.map fun x => x.cps.getD 0 0).Perm r := by
    have := hp.map fun x : Str => x.cps.getD 0 0
    rwa [List.map_map, show ((fun x : Str => x.cps.getD 0 0) ∘ sgn) = id from rfl, List.map_id] at this
  have he : ss = (ss.map fun x => x.cps.getD 0 0).map sgn := by
    rw [List.map_map]
    refine (List.map_id ss).symm.trans (List.map_congr_left fun x hx => ?_)
    obtain ⟨c, hc, rfl⟩ := List.mem_map.mp (hp.mem_iff.mp hx)
    rfl
  rw [he] at hs
  have h1 := sorted_signs _ hs
  have h2 : (ss.map fun x => x.cps.getD 0 0) = l := (hg.trans hr).eq_of_pairwise (fun a b _ _ h1 h2 => Nat.le_antisymm h1 h2) h1 hl
  rw [he, h2]
theorem join_signs (l : List Nat) : Txt.join (Str.ofString "") (l.map sgn) = ⟨l.toArray⟩ := by
  show Builtin.Str.glued (Str.ofString "") (l.map sgn) = _
  rw [StrLaws.glued_eq_join]
  exact join_ones l
theorem filter_perm (q : Nat → Bool) : ∀ l : List Nat, (l.filter q ++ l.filter fun c => !(q c)).Perm l := by
  intro l
  induction l with
  | nil => exact .nil
  | cons a r ih =>
    cases h : q a with
    | true => simp only [List.filter_cons, h, if_true, Bool.not_true, Bool.false_eq_true, if_false, List.cons_append]; exact .cons a ih
    | false =>
      simp only [List.filter_cons, h, Bool.false_eq_true, if_false, Bool.not_false, if_true]
      exact List.perm_middle.trans (.cons a ih)
section
variable {M : Model} {A : Around} {E : Value → Shared → Prop} {s : Shared} {h₀ : Heap} {L a c P : Addr} {m mg mb : Str → Option Value} {cn : Str} {cs : Scope} {ccd : Value} {cl : List (Str × Addr)} {rest tl : List (Addr × Obj)}
  {p : Program} {loose : List Str} {mean : ExcName → Option Value} {name qual : Str} {params : Arguments} {body : PySem.Expr} {scope : Scope} {ps : Array Value} {pos : Pos} {clos : List (Str × Addr)}
/-- a lambda, made for the first time or again: its code lies in the table -/
theorem lam_both {Q : Value → Shared → Prop} (hq : ∀ {x}, (envX cn cs L a ccd cl).qual ++ "<lambda>" = x → x = qual) (hdef : defaultsOf params (envX cn cs L a ccd cl) = ([], [])) (F : Fr h₀ L s.heap m) (N : News h₀ L s.heap ((P, tabObj ps) :: rest)) (T : Top p loose mean mg mb h₀) (C : CodeHd h₀ c P) (hcd : ccd = .ref c) (hP : ∀ q ∈ rest, q.1 ≠ P)
    (hcl : closureFor scope (envX cn cs L a ccd cl) = pure clos)
    (htl : ∀ q ∈ tl, q ∈ rest)
    (hps : ps = #[] ∨ ∃ c' occ vs t, ps = #[rawInt pos.line, rawInt pos.col, .ref c'] ∧ (c', occ) ∈ tl ∧ occ.data = .fields vs ∧ vs[1]? = some (.str qual t))
    (h : ∀ f fo c' occ vs t ctv h' tk, fo = kla_obj "<lambda>" qual params body scope clos ((mg "__name__").getD .none) c' ctv → Fr h₀ L h' m → News h₀ L h' ((f, fo) :: (c', occ) :: (P, tabObj #[rawInt pos.line, rawInt pos.col, .ref c']) :: rest) →
      occ.data = .fields vs → vs[1]? = some (.str qual t) → (∀ q ∈ rest, q.1 < f) → c' < f → ((c', occ) ∈ tl ∨ ∀ q ∈ rest, q.1 < c') → Q (.ref f) { s with heap := h', toks := tk }) :
    wpAny M A (eval (.Lambda params body scope pos) (envX cn cs L a ccd cl)) Q E s := by
  refine kla_eval hdef ?_
  rw [hq rfl]
  rcases hps with rfl | ⟨c', occ, vs, t, rfl, hm, hd, hv⟩
  · refine kla_nest F N T C hcd (UpdF.head hP) True.intro rfl hcl fun f c' occ vs t ctv h' tk F' N' d1 d2 l1 l2 => ?_
    exact h f _ c' occ vs t ctv h' tk rfl F' N' d1 d2 (fun q hq => Nat.lt_trans (l1 q (.tail _ hq)) l2) l2 (.inr fun q hq => l1 q (.tail _ hq))
  · refine kla_hit F N T C hcd (.head _) (TriplesOk_snoc _ _ _ [] True.intro) (codeAmong_snoc [] True.intro rfl) hcl fun f ctv h' tk F' N' l1 => ?_
    refine h f _ c' occ vs t ctv h' tk rfl F' (fun q hq => N' q ?_) hd hv (fun q hq => l1 q (.tail _ hq)) (l1 _ (.tail _ (htl _ hm))) (.inl hm)
    rcases List.mem_cons.mp hq with rfl | hq
    · exact .head _
    rcases List.mem_cons.mp hq with rfl | hq
    · exact .tail _ (.tail _ (htl _ hm))
    · exact .tail _ hq
end
end Mine
end
section
theorem Mine.off_W27 : True := by (w_top off; trivial)
open PySem PySem.W PyProof.Rows PySem.Spec PySem.Calls
set_option maxRecDepth 100000
namespace Mine
def held_W27_1 : List String := "eval Lambda;binaryOp Add ref ref;call builtin:sorted;call type:list;compareOp NotEq ref ref;call builtin:str.join;compareOp NotIn str ref;setItem ref str;truthy str;subscriptTail;compareOp In str str".splitOn ";"
local macro_rules | `(tactic| walk_at $s:str) => if held_W27_1.contains s.getString then `(tactic| (k_here; refine hold ?_)) else Lean.Macro.throwUnsupported
local macro_rules | `(tactic| walk_at "call ref") => `(tactic| (k_here; (try dsimp only [List.cons_append, List.nil_append, List.append_nil]); refine hold ?_))
theorem stored_none {K : Type} [DecidableEq K] {kvs : List (K × Value)} {k : K} {v : Value} (h : valueAt kvs k = none) : stored kvs k v = kvs ++ [(k, v)] := by
  unfold stored
  rw [if_neg]
  intro ha
  obtain ⟨p, hp, e⟩ := List.any_eq_true.mp ha
  unfold valueAt at h
  rw [Option.map_eq_none_iff] at h
  exact absurd (List.find?_eq_none.mp h p hp) (by simpa using e)
theorem canonW {m : Str → Option Value} {a b c : Str} {x y z : Value} (h1 : m a = some x) (h2 : m b = some y) (h3 : m c = some z) : m = fun v => if v = a then some x else if v = b then some y else if v = c then some z else m v := canon3 h1 h2 h3

namespace K_turn_spec
set_option maxHeartbeats 1000000 in
noncomputable def cut : (@Subtype Prop fun P => P → ∀ {w : World} {p : Program} {loose : List Str} {mean : ExcName → Option Value} {mg mb : Str → Option Value} {A₀ : Around} {base g' : Heap} {L' : Addr} {m : Str → Option Value} {cn : Str} {cs : Scope} {ca L : Addr} {ccd : Value} {cl : List (Str × Addr)} {outer : List Env} {gd : Option (List Code)} {s : Shared} {Q : Flow → Shared → Prop} {E : Value → Shared → Prop} {name qual : Str} {params : Arguments} {pre rest rr wr wore fore fbody : List Stmt} {wtest ftgt fiter : PySem.Expr} {wpos fpos : Pos} {scope : Scope} {dV kV doc pm cdv ct oc : Value} {an od : Option Addr} {osl : Array (Option Value)} (hb : (Mine.hd.heap_39 w.params).lookup 148 = some ⟨oc, od, .func (fnOf name qual params (pre ++ rest) scope dV kV doc pm an cdv ct), osl⟩) (hpre : pre.length = 9) (hrest : rest = .While wtest (.For ftgt fiter fbody fore fpos :: wr) wore wpos :: rr) {tail fix tlx : List (Addr × Obj)} {zz : LexH} {ld lf dm D lw : Addr} {ode oN oT om oD c3 : Obj} {nl npb cap : Nat} {ln : Int} {tln : Tok} {tb : Array Value} {vs pbs : List Value} {kvs ovs : List (Str × Value)} {wl tkl : List Nat} {ch : Nat} {tw tc ttk : Tok} (B : Below A₀ base (envX cn cs L ca ccd cl :: outer) g') (F : Fr g' L' s.heap m) (X : (Mine.hd.heap_39 w.params).In g') (T : Top p loose mean mg mb g') (N : News g' L' s.heap ((145, tabObj tb) :: (lw, W.listOf vs.toArray cap) :: (dm, om) :: (D, oD) :: (ld, ode) :: (L' + 1 + 1 + 1, oT) :: (L' + 1 + 1, oN) :: (L' + 1, c3) :: lexAll zz lf [] nl ln tln pbs npb fix tail)) (hm1 : m (Str.ofString "lexer") = some (.ref zz.lx)) (hm2 : m (Str.ofString "word") = some (.str ⟨wl.toArray⟩ tw)) (hm3 : m (Str.ofString "moves") = some (.ref dm)) (dN : oN.data = .cell (some (.str ⟨#[ch]⟩ tc))) (dT : oT.data = .cell (some (.ref D))) (hoD : oD.IsDictOf (PySem.strKind Challenge.rw_pg0196_01.row.prog w) ovs) (hch : valueAt ovs ⟨#[ch]⟩ = some (.str ⟨tkl.toArray⟩ ttk)) (hom : om.IsDictOf (PySem.strKind Challenge.rw_pg0196_01.row.prog w) kvs) (hlw : valueAt kvs ⟨wl.toArray⟩ = some (.ref lw)) (hkz : kvs.length ≤ 1000) (hvz : vs.length ≤ 1000) (hpz : pbs.length ≤ 1000) (hwl : wl.length ≤ 20) (hwr : wl.Pairwise (· ≤ ·)) (hwc : ∀ c ∈ wl, c < 0x110000) (hsys : (dm == sysModules) = false) (O : LexOn w zz lf fix tail base) (CH : CodeHd base 142 138) (CH2 : CodeHd base 147 145) (htl : ∀ q ∈ tlx, q ∈ tail) (htb : tb = #[] ∨ ∃ c' occ vs t, tb = #[rawInt 138, rawInt 44, .ref c'] ∧ (c', occ) ∈ tlx ∧ occ.data = .fields vs ∧ vs[1]? = some (.str (Str.ofString "_law_moves.<locals>.<lambda>") t)) (hl3 : @LT.lt Nat _ 145 L') (hA : @LT.lt Nat _ (L' + 1 + 1 + 1) lf ∧ @LT.lt Nat _ (L' + 1 + 1 + 1) zz.lx ∧ @LT.lt Nat _ (L' + 1 + 1 + 1) zz.dl ∧ @LT.lt Nat _ (L' + 1 + 1 + 1) zz.st ∧ @LT.lt Nat _ (L' + 1 + 1 + 1) zz.ds ∧ @LT.lt Nat _ (L' + 1 + 1 + 1) zz.pb) (hB : @LT.lt Nat _ lf ld ∧ @LT.lt Nat _ zz.lx ld ∧ @LT.lt Nat _ zz.dl ld ∧ @LT.lt Nat _ zz.st ld ∧ @LT.lt Nat _ zz.ds ld ∧ @LT.lt Nat _ zz.pb ld) (hD1 : @LT.lt Nat _ ld D) (hD2 : @LT.lt Nat _ D dm) (hD3 : @LT.lt Nat _ dm lw) (o1 : ∀ p ∈ fix ++ tail, p.1 ≠ lw) (o2 : ∀ p ∈ fix ++ tail, p.1 ≠ dm) (o3 : ∀ p ∈ fix ++ tail, p.1 ≠ (145 : Addr)) (h : ∀ h' tk' m' c' occ cvs t gl sl tv, Fr g' L' h' m' → (∀ z, z ≠ Str.ofString "goes" → z ≠ Str.ofString "stays" → z ≠ Str.ofString "left" → m' z = m z) → occ.data = .fields cvs → cvs[1]? = some (.str (Str.ofString "_law_moves.<locals>.<lambda>") t) →
      ((c', occ) ∈ tlx ∨ (@LT.lt Nat _ lw c' ∧ ∀ q ∈ fix ++ tail, @LT.lt Nat _ q.1 c')) → sl = wl.filter (fun c => !(decide (c ∈ tkl))) → gl = (Value.str ⟨sl.toArray⟩ tv) →
      (if sl ≠ [] ∧ valueAt kvs ⟨sl.toArray⟩ = none then
        ∃ ll om' npb' cp, News g' L' h' ((ll, W.listOf #[] cp) :: (c', occ) :: (145, tabObj #[rawInt 138, rawInt 44, .ref c']) :: (lw, W.listOf (vs ++ [gl]).toArray (cap + 1)) :: (dm, om') :: (D, oD) :: (ld, ode) :: (L' + 1 + 1 + 1, oT) :: (L' + 1 + 1, oN) :: (L' + 1, c3) :: lexAll zz lf [] nl ln tln (pbs ++ [gl]) npb' fix tail) ∧ om'.IsDictOf (PySem.strKind Challenge.rw_pg0196_01.row.prog w) (kvs ++ [(⟨sl.toArray⟩, .ref ll)]) ∧ (∀ q ∈ fix ++ tail, q.1 < ll) ∧ @LT.lt Nat _ lw ll ∧ @LT.lt Nat _ c' ll
       else News g' L' h' ((c', occ) :: (145, tabObj #[rawInt 138, rawInt 44, .ref c']) :: (lw, W.listOf (vs ++ [gl]).toArray (cap + 1)) :: (dm, om) :: (D, oD) :: (ld, ode) :: (L' + 1 + 1 + 1, oT) :: (L' + 1 + 1, oN) :: (L' + 1, c3) :: lexAll zz lf [] nl ln tln pbs npb fix tail)) →
      Q .next { s with heap := h', toks := tk' }), wpAny (model Challenge.rw_pg0196_01.row.prog w) ((At 30 gd (envX cn cs L ca ccd cl :: outer)).deeper (envOfC qual scope L' 148 cdv)) (execs fbody (envOfC qual scope L' 148 cdv)) Q E s) := by
  refine' mkCut fun hole => ?_
  rotate_left
  focus
  intro w p loose mean mg mb A₀ base g' L' m cn cs ca L ccd cl outer gd s Q E name qual params pre rest rr wr wore fore fbody wtest ftgt fiter wpos fpos scope dV kV doc pm cdv ct oc an od osl hb hpre hrest tail fix tlx zz ld lf dm D lw ode oN oT om oD c3 nl npb cap ln tln tb vs pbs kvs ovs wl tkl ch tw tc ttk B F X T N hm1 hm2 hm3 dN dT hoD hch hom hlw hkz hvz hpz hwl hwr hwc hsys O CH CH2 htl htb hl3 hA hB hD1 hD2 hD3 o1 o2 o3 h
  revert X
  k_fill
  intro X
  refine' use_look hb ?hlk ?_
  case hlk => k_is
  intro hb2
  injection hb2 with q1 q2 q3 q4
  injection q3 with q3
  injection q3 with r1 r2 r3 r4 r5 r6 r7 r8 r9 r10 r11 r12 r13 r14 r15
  injection r4 with r4
  have hr : rest = (pre ++ rest).drop 9 := by rw [← hpre]; simp
  rw [← r4] at hr
  dsimp only [List.drop] at hr
  clear hb r4
  rw [hrest] at hr
  injection hr with hr1 hr2
  injection hr1 with hr1 hr3 hr4 hr5
  injection hr3 with hr3 hr6
  injection hr3 with hr7 hr8 hr9 hr10 hr11
  subst hr9 r2 r5 r13
  have fF := F
  rw [canonW hm1 hm2 hm3] at fF
  clear F
  dsimp only [lexAll, lexLed, List.cons_append, List.nil_append] at N
  revert hpre B T N hm1 hm2 hm3 dN dT hoD hch hom hlw hkz hvz hpz hwl hwr hwc hsys O CH CH2 htl htb hl3 hA hB hD1 hD2 hD3 o1 o2 o3 h X q1 q2 q4 r1 r3 r6 r7 r8 r9 r10 r11 r12 r14 r15 hr2 hr1 hr4 hr5 hr6 hr7 hr8 hr10 hr11 hrest fF
  revert w p loose mean mg mb A₀ base g' L' m cn cs ca L ccd cl outer gd s Q E name params pre rest rr wr wore fore wtest ftgt fiter wpos fpos dV kV doc pm ct oc an od osl tail fix tlx zz ld lf dm D lw ode oN oT om oD c3 nl npb cap ln tln tb vs pbs kvs ovs wl tkl ch tw tc ttk
  exact no_implicit_lambda% hole.get
noncomputable section
noncomputable def Pcut : (World) → (Program) → (List Str) → (ExcName → Option Value) → (Str → Option Value) → (Str → Option Value) → (Around) → (Heap) → (Heap) → (Addr) → (Str → Option Value) → (Str) → (Scope) → (Addr) → (Addr) → (Value) → (List (Str × Addr)) → (List Env) → (Option (List Code)) → (Shared) → (Flow → Shared → Prop) → (Value → Shared → Prop) → (Str) → (Arguments) → (List Stmt) → (List Stmt) → (List Stmt) → (List Stmt) → (List Stmt) → (List Stmt) → (Expr) → (Expr) → (Expr) → (Pos) → (Pos) → (Value) → (Value) → (Value) → (Value) → (Value) → (Value) → (Option Addr) → (Option Addr) → (Array (Option Value)) → (List (Addr × Obj)) → (List (Addr × Obj)) → (List (Addr × Obj)) → (LexH) → (Addr) → (Addr) → (Addr) → (Addr) → (Addr) → (Obj) → (Obj) → (Obj) → (Obj) → (Obj) → (Obj) → (Nat) → (Nat) → (Nat) → (Int) → (Tok) → (Array Value) → (List Value) → (List Value) → (List (Str × Value)) → (List (Str × Value)) → (List Nat) → (List Nat) → (Nat) → (Tok) → (Tok) → (Tok) → Prop := (@id (∀ {Rcut : (World) → (Program) → (List Str) → (ExcName → Option Value) → (Str → Option Value) → (Str → Option Value) → (Around) → (Heap) → (Heap) → (Addr) → (Str → Option Value) → (Str) → (Scope) → (Addr) → (Addr) → (Value) → (List (Str × Addr)) → (List Env) → (Option (List Code)) → (Shared) → (Flow → Shared → Prop) → (Value → Shared → Prop) → (Str) → (Arguments) → (List Stmt) → (List Stmt) → (List Stmt) → (List Stmt) → (List Stmt) → (List Stmt) → (Expr) → (Expr) → (Expr) → (Pos) → (Pos) → (Value) → (Value) → (Value) → (Value) → (Value) → (Value) → (Option Addr) → (Option Addr) → (Array (Option Value)) → (List (Addr × Obj)) → (List (Addr × Obj)) → (List (Addr × Obj)) → (LexH) → (Addr) → (Addr) → (Addr) → (Addr) → (Addr) → (Obj) → (Obj) → (Obj) → (Obj) → (Obj) → (Obj) → (Nat) → (Nat) → (Nat) → (Int) → (Tok) → (Array Value) → (List Value) → (List Value) → (List (Str × Value)) → (List (Str × Value)) → (List Nat) → (List Nat) → (Nat) → (Tok) → (Tok) → (Tok) → Prop}, cut.1 = (∀ w p loose mean mg mb A₀ base g' L' m cn cs ca L ccd cl outer gd s Q E name params pre rest rr wr wore fore wtest ftgt fiter wpos fpos dV kV doc pm ct oc an od osl tail fix tlx zz ld lf dm D lw ode oN oT om oD c3 nl npb cap ln tln tb vs pbs kvs ovs wl tkl ch tw tc ttk, Rcut w p loose mean mg mb A₀ base g' L' m cn cs ca L ccd cl outer gd s Q E name params pre rest rr wr wore fore wtest ftgt fiter wpos fpos dV kV doc pm ct oc an od osl tail fix tlx zz ld lf dm D lw ode oN oT om oD c3 nl npb cap ln tln tb vs pbs kvs ovs wl tkl ch tw tc ttk) → _) fun {Rcut} _ => Rcut) rfl
noncomputable def Tcut : Type := (World × Program × (List Str) × (ExcName → Option Value) × (Str → Option Value) × (Str → Option Value) × Around × Heap × Heap) × (Addr × (Str → Option Value) × Str × Scope × Addr × Addr × Value × (List (Str × Addr)) × (List Env)) × ((Option (List Code)) × Shared × (Flow → Shared → Prop) × (Value → Shared → Prop) × Str × Arguments × (List Stmt) × (List Stmt) × (List Stmt)) × ((List Stmt) × (List Stmt) × (List Stmt) × Expr × Expr × Expr × Pos × Pos × Value) × (Value × Value × Value × Value × Value × (Option Addr) × (Option Addr) × (Array (Option Value)) × (List (Addr × Obj))) × ((List (Addr × Obj)) × (List (Addr × Obj)) × LexH × Addr × Addr × Addr × Addr × Addr × Obj) × (Obj × Obj × Obj × Obj × Obj × Nat × Nat × Nat × Int) × (Tok × (Array Value) × (List Value) × (List Value) × (List (Str × Value)) × (List (Str × Value)) × (List Nat) × (List Nat) × Nat) × (Tok × Tok × Tok)
noncomputable def Qcut (x : Tcut) : Prop := Pcut x.1.1 x.1.2.1 x.1.2.2.1 x.1.2.2.2.1 x.1.2.2.2.2.1 x.1.2.2.2.2.2.1 x.1.2.2.2.2.2.2.1 x.1.2.2.2.2.2.2.2.1 x.1.2.2.2.2.2.2.2.2 x.2.1.1 x.2.1.2.1 x.2.1.2.2.1 x.2.1.2.2.2.1 x.2.1.2.2.2.2.1 x.2.1.2.2.2.2.2.1 x.2.1.2.2.2.2.2.2.1 x.2.1.2.2.2.2.2.2.2.1 x.2.1.2.2.2.2.2.2.2.2 x.2.2.1.1 x.2.2.1.2.1 x.2.2.1.2.2.1 x.2.2.1.2.2.2.1 x.2.2.1.2.2.2.2.1 x.2.2.1.2.2.2.2.2.1 x.2.2.1.2.2.2.2.2.2.1 x.2.2.1.2.2.2.2.2.2.2.1 x.2.2.1.2.2.2.2.2.2.2.2 x.2.2.2.1.1 x.2.2.2.1.2.1 x.2.2.2.1.2.2.1 x.2.2.2.1.2.2.2.1 x.2.2.2.1.2.2.2.2.1 x.2.2.2.1.2.2.2.2.2.1 x.2.2.2.1.2.2.2.2.2.2.1 x.2.2.2.1.2.2.2.2.2.2.2.1 x.2.2.2.1.2.2.2.2.2.2.2.2 x.2.2.2.2.1.1 x.2.2.2.2.1.2.1 x.2.2.2.2.1.2.2.1 x.2.2.2.2.1.2.2.2.1 x.2.2.2.2.1.2.2.2.2.1 x.2.2.2.2.1.2.2.2.2.2.1 x.2.2.2.2.1.2.2.2.2.2.2.1 x.2.2.2.2.1.2.2.2.2.2.2.2.1 x.2.2.2.2.1.2.2.2.2.2.2.2.2 x.2.2.2.2.2.1.1 x.2.2.2.2.2.1.2.1 x.2.2.2.2.2.1.2.2.1 x.2.2.2.2.2.1.2.2.2.1 x.2.2.2.2.2.1.2.2.2.2.1 x.2.2.2.2.2.1.2.2.2.2.2.1 x.2.2.2.2.2.1.2.2.2.2.2.2.1 x.2.2.2.2.2.1.2.2.2.2.2.2.2.1 x.2.2.2.2.2.1.2.2.2.2.2.2.2.2 x.2.2.2.2.2.2.1.1 x.2.2.2.2.2.2.1.2.1 x.2.2.2.2.2.2.1.2.2.1 x.2.2.2.2.2.2.1.2.2.2.1 x.2.2.2.2.2.2.1.2.2.2.2.1 x.2.2.2.2.2.2.1.2.2.2.2.2.1 x.2.2.2.2.2.2.1.2.2.2.2.2.2.1 x.2.2.2.2.2.2.1.2.2.2.2.2.2.2.1 x.2.2.2.2.2.2.1.2.2.2.2.2.2.2.2 x.2.2.2.2.2.2.2.1.1 x.2.2.2.2.2.2.2.1.2.1 x.2.2.2.2.2.2.2.1.2.2.1 x.2.2.2.2.2.2.2.1.2.2.2.1 x.2.2.2.2.2.2.2.1.2.2.2.2.1 x.2.2.2.2.2.2.2.1.2.2.2.2.2.1 x.2.2.2.2.2.2.2.1.2.2.2.2.2.2.1 x.2.2.2.2.2.2.2.1.2.2.2.2.2.2.2.1 x.2.2.2.2.2.2.2.1.2.2.2.2.2.2.2.2 x.2.2.2.2.2.2.2.2.1 x.2.2.2.2.2.2.2.2.2.1 x.2.2.2.2.2.2.2.2.2.2
theorem ex_cut : ∃ x : Tcut, Qcut x → ∀ y, Qcut y := by
  haveI : Nonempty LexH := by refine ⟨?_⟩; repeat' (first | exact default | constructor)
  haveI := neW; haveI := neA; haveI := neS
  haveI : Nonempty Tcut := by unfold Tcut; set_option synthInstance.maxSize 2000 in infer_instance
  exact henk1 Qcut
noncomputable def Ccut : Tcut := Classical.choose ex_cut
@[irreducible] noncomputable def w : World := Ccut.1.1
@[irreducible] noncomputable def p : Program := Ccut.1.2.1
@[irreducible] noncomputable def loose : List Str := Ccut.1.2.2.1
@[irreducible] noncomputable def mean : ExcName → Option Value := Ccut.1.2.2.2.1
@[irreducible] noncomputable def mg : Str → Option Value := Ccut.1.2.2.2.2.1
@[irreducible] noncomputable def mb : Str → Option Value := Ccut.1.2.2.2.2.2.1
@[irreducible] noncomputable def A₀ : Around := Ccut.1.2.2.2.2.2.2.1
@[irreducible] noncomputable def base : Heap := Ccut.1.2.2.2.2.2.2.2.1
@[irreducible] noncomputable def g' : Heap := Ccut.1.2.2.2.2.2.2.2.2
@[irreducible] noncomputable def L' : Addr := Ccut.2.1.1
@[irreducible] noncomputable def m : Str → Option Value := Ccut.2.1.2.1
@[irreducible] noncomputable def cn : Str := Ccut.2.1.2.2.1
@[irreducible] noncomputable def cs : Scope := Ccut.2.1.2.2.2.1
@[irreducible] noncomputable def ca : Addr := Ccut.2.1.2.2.2.2.1
@[irreducible] noncomputable def L : Addr := Ccut.2.1.2.2.2.2.2.1
@[irreducible] noncomputable def ccd : Value := Ccut.2.1.2.2.2.2.2.2.1
@[irreducible] noncomputable def cl : List (Str × Addr) := Ccut.2.1.2.2.2.2.2.2.2.1
@[irreducible] noncomputable def outer : List Env := Ccut.2.1.2.2.2.2.2.2.2.2
@[irreducible] noncomputable def gd : Option (List Code) := Ccut.2.2.1.1
@[irreducible] noncomputable def s : Shared := Ccut.2.2.1.2.1
@[irreducible] noncomputable def Q : Flow → Shared → Prop := Ccut.2.2.1.2.2.1
@[irreducible] noncomputable def E : Value → Shared → Prop := Ccut.2.2.1.2.2.2.1
@[irreducible] noncomputable def name : Str := Ccut.2.2.1.2.2.2.2.1
@[irreducible] noncomputable def params : Arguments := Ccut.2.2.1.2.2.2.2.2.1
@[irreducible] noncomputable def pre : List Stmt := Ccut.2.2.1.2.2.2.2.2.2.1
@[irreducible] noncomputable def rest : List Stmt := Ccut.2.2.1.2.2.2.2.2.2.2.1
@[irreducible] noncomputable def rr : List Stmt := Ccut.2.2.1.2.2.2.2.2.2.2.2
@[irreducible] noncomputable def wr : List Stmt := Ccut.2.2.2.1.1
@[irreducible] noncomputable def wore : List Stmt := Ccut.2.2.2.1.2.1
@[irreducible] noncomputable def fore : List Stmt := Ccut.2.2.2.1.2.2.1
@[irreducible] noncomputable def wtest : Expr := Ccut.2.2.2.1.2.2.2.1
@[irreducible] noncomputable def ftgt : Expr := Ccut.2.2.2.1.2.2.2.2.1
@[irreducible] noncomputable def fiter : Expr := Ccut.2.2.2.1.2.2.2.2.2.1
@[irreducible] noncomputable def wpos : Pos := Ccut.2.2.2.1.2.2.2.2.2.2.1
@[irreducible] noncomputable def fpos : Pos := Ccut.2.2.2.1.2.2.2.2.2.2.2.1
@[irreducible] noncomputable def dV : Value := Ccut.2.2.2.1.2.2.2.2.2.2.2.2
@[irreducible] noncomputable def kV : Value := Ccut.2.2.2.2.1.1
@[irreducible] noncomputable def doc : Value := Ccut.2.2.2.2.1.2.1
@[irreducible] noncomputable def pm : Value := Ccut.2.2.2.2.1.2.2.1
@[irreducible] noncomputable def ct : Value := Ccut.2.2.2.2.1.2.2.2.1
@[irreducible] noncomputable def oc : Value := Ccut.2.2.2.2.1.2.2.2.2.1
@[irreducible] noncomputable def an : Option Addr := Ccut.2.2.2.2.1.2.2.2.2.2.1
@[irreducible] noncomputable def od : Option Addr := Ccut.2.2.2.2.1.2.2.2.2.2.2.1
@[irreducible] noncomputable def osl : Array (Option Value) := Ccut.2.2.2.2.1.2.2.2.2.2.2.2.1
@[irreducible] noncomputable def tail : List (Addr × Obj) := Ccut.2.2.2.2.1.2.2.2.2.2.2.2.2
@[irreducible] noncomputable def fix : List (Addr × Obj) := Ccut.2.2.2.2.2.1.1
@[irreducible] noncomputable def tlx : List (Addr × Obj) := Ccut.2.2.2.2.2.1.2.1
@[irreducible] noncomputable def zz : LexH := Ccut.2.2.2.2.2.1.2.2.1
@[irreducible] noncomputable def ld : Addr := Ccut.2.2.2.2.2.1.2.2.2.1
@[irreducible] noncomputable def lf : Addr := Ccut.2.2.2.2.2.1.2.2.2.2.1
@[irreducible] noncomputable def dm : Addr := Ccut.2.2.2.2.2.1.2.2.2.2.2.1
@[irreducible] noncomputable def D : Addr := Ccut.2.2.2.2.2.1.2.2.2.2.2.2.1
@[irreducible] noncomputable def lw : Addr := Ccut.2.2.2.2.2.1.2.2.2.2.2.2.2.1
@[irreducible] noncomputable def ode : Obj := Ccut.2.2.2.2.2.1.2.2.2.2.2.2.2.2
@[irreducible] noncomputable def oN : Obj := Ccut.2.2.2.2.2.2.1.1
@[irreducible] noncomputable def oT : Obj := Ccut.2.2.2.2.2.2.1.2.1
@[irreducible] noncomputable def om : Obj := Ccut.2.2.2.2.2.2.1.2.2.1
@[irreducible] noncomputable def oD : Obj := Ccut.2.2.2.2.2.2.1.2.2.2.1
@[irreducible] noncomputable def c3 : Obj := Ccut.2.2.2.2.2.2.1.2.2.2.2.1
@[irreducible] noncomputable def nl : Nat := Ccut.2.2.2.2.2.2.1.2.2.2.2.2.1
@[irreducible] noncomputable def npb : Nat := Ccut.2.2.2.2.2.2.1.2.2.2.2.2.2.1
@[irreducible] noncomputable def cap : Nat := Ccut.2.2.2.2.2.2.1.2.2.2.2.2.2.2.1
@[irreducible] noncomputable def ln : Int := Ccut.2.2.2.2.2.2.1.2.2.2.2.2.2.2.2
@[irreducible] noncomputable def tln : Tok := Ccut.2.2.2.2.2.2.2.1.1
@[irreducible] noncomputable def tb : Array Value := Ccut.2.2.2.2.2.2.2.1.2.1
@[irreducible] noncomputable def vs : List Value := Ccut.2.2.2.2.2.2.2.1.2.2.1
@[irreducible] noncomputable def pbs : List Value := Ccut.2.2.2.2.2.2.2.1.2.2.2.1
@[irreducible] noncomputable def kvs : List (Str × Value) := Ccut.2.2.2.2.2.2.2.1.2.2.2.2.1
@[irreducible] noncomputable def ovs : List (Str × Value) := Ccut.2.2.2.2.2.2.2.1.2.2.2.2.2.1
@[irreducible] noncomputable def wl : List Nat := Ccut.2.2.2.2.2.2.2.1.2.2.2.2.2.2.1
@[irreducible] noncomputable def tkl : List Nat := Ccut.2.2.2.2.2.2.2.1.2.2.2.2.2.2.2.1
@[irreducible] noncomputable def ch : Nat := Ccut.2.2.2.2.2.2.2.1.2.2.2.2.2.2.2.2
@[irreducible] noncomputable def tw : Tok := Ccut.2.2.2.2.2.2.2.2.1
@[irreducible] noncomputable def tc : Tok := Ccut.2.2.2.2.2.2.2.2.2.1
@[irreducible] noncomputable def ttk : Tok := Ccut.2.2.2.2.2.2.2.2.2.2
end
set_option maxHeartbeats 1000000 in
theorem at_cut : Pcut w p loose mean mg mb A₀ base g' L' m cn cs ca L ccd cl outer gd s Q E name params pre rest rr wr wore fore wtest ftgt fiter wpos fpos dV kV doc pm ct oc an od osl tail fix tlx zz ld lf dm D lw ode oN oT om oD c3 nl npb cap ln tln tb vs pbs kvs ovs wl tkl ch tw tc ttk := by
  intro hpre B T N hm1 hm2 hm3 dN dT hoD hch hom hlw hkz hvz hpz hwl hwr hwc hsys O CH CH2 htl htb hl3 hA hB hD1 hD2 hD3 o1 o2 o3 h X q1 q2 q4 r1 r3 r6 r7 r8 r9 r10 r11 r12 r14 r15 hr2 hr1 hr4 hr5 hr6 hr7 hr8 hr10 hr11 hrest fF
  k_steps
  unfold Hold
  (rename Fr _ _ _ _ => fF); (rename News _ _ _ _ => fN); (rename Below _ _ _ _ => fB); (rename Frag.In _ _ => fX); (rename Top _ _ _ _ _ _ => fT)
  have CHK : CodeHd g' 147 145 := CodeHd.keeps CH2 (Below.stays fB)
  have hP : ∀ q ∈ ((lw, W.listOf vs.toArray cap) :: (dm, om) :: (D, oD) :: (ld, ode) :: (L' + 1 + 1 + 1, oT) :: (L' + 1 + 1, oN) :: (L' + 1, c3) :: lexAll zz lf [] nl ln tln pbs npb fix tail), q.1 ≠ (145 : Addr) := by
    intro q hq
    simp only [lexAll, lexLed, List.cons_append, List.nil_append, List.mem_cons] at hq
    rcases hq with rfl | rfl | rfl | rfl | rfl | rfl | rfl | rfl | rfl | rfl | rfl | rfl | rfl | hq
    all_goals first | exact o3 _ hq | (k_ne)
  k_dflt (refine' lam_both (qual := Str.ofString "_law_moves.<locals>.<lambda>") ?hq rfl fF fN fT CHK rfl ?hP ?hcl (tl := tlx) ?htl ?hps ?h)
  case hq => (intro x e; subst e; refine (?_ : (Str.ofString "_law_moves" ++ Str.ofString ".<locals>.") ++ Str.ofString "<lambda>" = Str.ofString "_law_moves.<locals>.<lambda>"); decide +kernel)
  case hP => exact hP
  case hcl => exact rfl
  case hps =>
    rcases htb with e | ⟨c', occ, vs, t, e1, e2, e3, e4⟩
    · exact .inl e
    · exact .inr ⟨c', occ, vs, t, e1, e2, e3, e4⟩
  case htl => (intro q hq; (have hq' := htl q hq); simp only [List.mem_cons, List.mem_append]; simp [hq'])
  case h =>
    clear fF fN
    intro f fo c' occ cvs t ctv h1 tk1 hfo fF fN hcv hcv1 lf1 lf2 lf3
    have PS : PredSpec w f base [(f, fo), (c', occ), (L' + 1 + 1, oN), (L' + 1 + 1 + 1, oT), (D, oD)] (fun c => decide (c ∈ tkl)) := by
      subst hfo
      intro p loose mean mg mb A₀ h₀ L m cn cs ca ccd cl outer gd s R news c t B F X N hC T hk hR
      clear fF fN
      have N1 := news_app N hC
      clear N
      dsimp only [List.cons_append, List.nil_append] at N1
      revert X
      k_fill
      intro X
      k_dflt (refine' kla_code ?k1 ?k2 ?k3 ?k4 ?k5 ?kA ?kF ?kK ?k6 ?k7 ?k8 ?k9 ?kB ?_ ?c2 ?c3 ?c4 ?c5; (case kA => exact rfl); (case kF => exact rfl); (case kK => exact hk); (case k1 => k_asm); (case k2 => k_asm); (case k3 => k_asm); (case k4 => k_asm); (case k5 => k_asm); (case k6 => k_mem); (case k7 => exact codeRec_news (by k_asm) (by k_mem) (by assumption) (by assumption)); (case k8 => k_room); (case k9 => exact rfl); (case c5 => decide); (case kB => exact locs rfl); (case c2 => exact rfl); (case c3 => exact rfl); (case c4 => exact rfl); k_whole; intro g' L' h' FG' F' N' B' X' T'; (try dsimp only); (try k_lift B'); (try k_fold))
      k_steps; repeat' (first | (refine unhold ?_; (first | ((with_reducible show wpAny _ _ (compareOp _ (Value.str _ _) (Value.str _ _)) _ _ _); (first | with_reducible refine' in_one ?hbzq ?_ | k_dflt (refine' in_one ?hbzq ?_)); (case hbzq => k_dflt (exact rfl))) | ((with_reducible show wpAny _ _ (subscriptTail _ _ (Value.ref _) (Value.str _ _)) _ _ _); k_dflt (refine kda_item (knd := PySem.strKind _ _) (by k_asm) (by k_mem) (by k_asm) (strKind_is _ _ _ _) (by assumption) ?_))); (try k_steps)))
      (rename Fr h₀ _ _ _ => kF); (rename News h₀ _ _ _ => kN)
      exact hR _ _ kF (fun p hp => kN p (.tail _ (.tail _ (.tail _ (.tail _ (.tail _ hp))))))
    k_steps
    unfold Hold
    refine wpAny_call ?_
    (rename Fr _ _ _ _ => fF); (rename News _ _ _ _ => fN)
    subst hfo
    k_dflt (refine' code_at (split_spec fB fF fX fN fT ?hk PS ?hC (List.Mem.head _) ?hx ?h) ?b1 ?b2 ?b3 ?b4 ?b5)
    case b1 => exact rfl
    case b2 => exact rfl
    case b3 => exact rfl
    case b4 => exact Nat.le_of_ble_eq_true rfl
    case b5 => exact Nat.le_of_ble_eq_true rfl
    case hk => exact rfl
    case hC => exact List.forall_mem_cons.mpr ⟨by k_memK, List.forall_mem_cons.mpr ⟨by k_memK, List.forall_mem_cons.mpr ⟨by k_memK, List.forall_mem_cons.mpr ⟨by k_memK, List.forall_mem_cons.mpr ⟨by k_memK, fun _ h => nomatch h⟩⟩⟩⟩⟩
    case hx => (rw [List.size_toArray]; omega)
    case h =>
      clear fF fN
      intro h2 tk2 tu yes no yv nv ky kn kt fF fN hyv hnv lyn lnt lnew
      dsimp only at fN hyv hnv
      have hlyn : yv.length + nv.length = wl.length := by
        have e1 := hyv.length
        have e2 := hnv.length
        have e3 := (filter_perm (fun c => decide (c ∈ tkl)) wl).length_eq
        rw [List.length_append] at e3
        omega
      k_steps
      trace "ADD"
      unfold Hold
      (rename Fr _ _ _ _ => fF); (rename News _ _ _ _ => fN)
      k_dflt (refine' add_listsK fF fN ?ha ?hb ?hz ?_)
      case ha => k_mem
      case hb => k_mem
      case hz => omega
      clear fF fN
      intro D1 h3 fF fN lD1
      k_steps
      trace "SORTED"
      unfold Hold
      (rename Fr _ _ _ _ => fF); (rename News _ _ _ _ => fN)
      k_dflt (refine' sorted_strK fF fN ?ha (hyv.app hnv).strs ?hz ?_)
      case ha => k_mem
      case hz => (rw [List.length_append]; omega)
      clear fF fN
      intro D2 h4 vs2 ss2 e2 fF fN lD2 hvs2 hpm hso
      have hss := signs_sorted hpm (filter_perm _ wl) hso hwr
      subst hss
      k_steps
      trace "LIST"
      unfold Hold
      (rename Fr _ _ _ _ => fF); (rename News _ _ _ _ => fN)
      k_dflt (refine' list_strK (by rfl) fF fN ?hz ?_)
      case hz => (simp [Str.length]; omega)
      clear fF fN
      intro D3 h5 tk5 ys5 n5 fF fN lD3 hys5
      dsimp only at hys5
      k_steps
      trace "NE"
      unfold Hold
      (rename Fr _ _ _ _ => fF); (rename News _ _ _ _ => fN)
      k_dflt (refine' ne_strsK fN ?ha ?hb hvs2 hys5.strs (signs_ok hwc) (signs_ok hwc) ?hu ?_)
      case ha => k_mem
      case hb => k_mem
      case hu => ke_room
      rw [decide_eq_true rfl]
      k_steps
      trace "JOIN"
      unfold Hold
      (rename Fr _ _ _ _ => fF); (rename News _ _ _ _ => fN)
      obtain ⟨sl, hsl⟩ : ∃ sl, sl = wl.filter fun c => !(decide (c ∈ tkl)) := ⟨_, rfl⟩
      rw [← hsl] at hnv
      have hnl := hnv.length
      k_dflt (refine' join_listW (ys := sl.map sgn) (items := nv.toArray) ⟨_, (fN (no, W.listOf nv.toArray kn) (by k_mem)).1, rfl, _, rfl⟩ ?hi ?hs ?hw ?_)
      case hi => exact hnv.strs
      case hs => decide
      case hw => (rw [List.map_map, show (fun x : Str => x.length) ∘ sgn = fun _ => 1 from rfl, List.map_const', List.sum_replicate_nat, List.length_map]; omega)
      rw [join_signs]
      intro tj kj
      have cOff : ∀ {d : Addr} {o : Obj}, (∀ p ∈ fix ++ tail, p.1 ≠ d) → (d, o) ∈ ((lw, W.listOf vs.toArray cap) :: (dm, om) :: (D, oD) :: (ld, ode) :: (L' + 1 + 1 + 1, oT) :: (L' + 1 + 1, oN) :: (L' + 1, c3) :: lexAll zz lf [] nl ln tln pbs npb fix tail) → @Ne Nat c' d := by
        intro d o h1 h2
        rcases lf3 with h3 | h3
        · exact h1 _ (List.mem_append_right _ (htl _ h3))
        · exact Nat.ne_of_gt (h3 _ h2)
      have lfc : (c', occ) ∈ tlx ∨ (@LT.lt Nat _ lw c' ∧ ∀ q ∈ fix ++ tail, @LT.lt Nat _ q.1 c') := by
        rcases lf3 with h3 | h3
        · exact .inl h3
        · refine .inr ⟨h3 _ (.head _), fun q hq => h3 q ?_⟩
          repeat (first | exact hq | refine List.mem_cons_of_mem _ ?_)
      have hc1 : @Ne Nat c' lw := cOff o1 (.head _)
      have hc2 : @Ne Nat c' dm := cOff o2 (.tail _ (.head _))
      replace fN := news_re fN (fun p hp => .tail _ (.tail _ (.tail _ (.tail _ (.tail _ (.tail _ (.tail _ hp)))))))
      k_steps; repeat' (first | (refine unhold ?_; (first | ((with_reducible show wpAny _ _ (compareOp _ (Value.str _ _) (Value.str _ _)) _ _ _); (first | with_reducible refine' in_one ?hbzq ?_ | k_dflt (refine' in_one ?hbzq ?_)); (case hbzq => k_dflt (exact rfl))) | ((with_reducible show wpAny _ _ (subscriptTail _ _ (Value.ref _) (Value.str _ _)) _ _ _); k_dflt (refine kda_item (knd := PySem.strKind _ _) (by k_asm) (by k_mem) (by k_asm) (strKind_is _ _ _ _) (by assumption) ?_))); (try k_steps)))
      trace "APPENDED"
      unfold Hold
      have hm' : ∀ z, (if z = Str.ofString "lexer" then some (Value.ref zz.lx) else if z = Str.ofString "word" then some (.str ⟨wl.toArray⟩ tw) else if z = Str.ofString "moves" then some (.ref dm) else m z) = m z := fun z => (congrFun (canonW hm1 hm2 hm3) z).symm
      have hslz : sl.length ≤ 100 := by omega
      by_cases hs0 : sl = []
      · with_reducible (refine' truthy_strK (b := false) ?hl ?hb ?_)
        case hl => (simp [Str.length]; omega)
        case hb => (rw [hs0]; rfl)
        k_steps
        trace "END1"
        (rename Fr g' _ _ _ => gF); (rename News g' _ _ _ => gN)
        rw [List.push_toArray] at gN
        refine h _ _ _ c' occ cvs t _ sl tj gF (fun z z1 z2 z3 => ?_) hcv hcv1 lfc hsl rfl ?_
        · simp only [if_neg z1, if_neg z2, if_neg z3]
          exact hm' z
        · rw [if_neg (by simp [hs0])]
          exact gN
      · with_reducible (refine' truthy_strK (b := true) ?hl ?hb ?_)
        case hl => (simp [Str.length]; omega)
        case hb => (have : sl.length ≠ 0 := fun e => hs0 (List.eq_nil_of_length_eq_zero e)); (simp [Str.length, this])
        k_steps
        trace "NOTIN"
        unfold Hold
        (rename Fr g' _ _ _ => gF); (rename News g' _ _ _ => gN)
        cases hvl : valueAt kvs ⟨sl.toArray⟩ with
        | some vv =>
          k_dflt (refine' kdg_notin (knd := PySem.strKind _ _) (k := ⟨sl.toArray⟩) gN ?hp hom hsys (strKind_is _ _ _ _) true ?hb ?_)
          case hp => k_mem
          case hb => rw [hvl]; rfl
          rw [Bool.not_true]
          k_steps
          trace "END2"
          rw [List.push_toArray] at gN
          refine h _ _ _ c' occ cvs t _ sl tj gF (fun z z1 z2 z3 => ?_) hcv hcv1 lfc hsl rfl ?_
          · simp only [if_neg z1, if_neg z2, if_neg z3]
            exact hm' z
          · rw [if_neg (by simp [hvl])]
            exact gN
        | none =>
          k_dflt (refine' kdg_notin (knd := PySem.strKind _ _) (k := ⟨sl.toArray⟩) gN ?hp hom hsys (strKind_is _ _ _ _) false ?hb ?_)
          case hp => k_mem
          case hb => rw [hvl]; rfl
          rw [Bool.not_false]
          k_steps
          trace "NEW"
          unfold Hold
          (rename Fr g' _ _ _ => gF); (rename News g' _ _ _ => gN)
          rename_i ll h7 l1
          k_dflt (refine' kda_set (knd := PySem.strKind _ _) (k := ⟨sl.toArray⟩) gF gN ?U hom (strKind_is _ _ _ _) ?z ?_)
          case U => k_updF
          case z => (rw [sizeLine_eq]; omega)
          clear gF gN
          intro h8 om2 fF fN hom2
          rw [stored_none hvl] at hom2
          k_steps
          trace "PUSH"
          unfold Hold
          (rename Fr g' _ _ _ => gF); (rename News g' _ _ _ => gN)
          refine wpAny_call ?_
          have hcl1 : @Ne Nat c' lf := cOff (fun p hp => O.off.r1 p hp) (.tail _ (.tail _ (.tail _ (.tail _ (.tail _ (.tail _ (.tail _ (.head _))))))))
          have hcl2 : @Ne Nat c' zz.dl := cOff (fun p hp => O.off.r2 p hp) (.tail _ (.tail _ (.tail _ (.tail _ (.tail _ (.tail _ (.tail _ (.tail _ (.head _)))))))))
          have hcl3 : @Ne Nat c' zz.pb := cOff (fun p hp => O.off.r3 p hp) (.tail _ (.tail _ (.tail _ (.tail _ (.tail _ (.tail _ (.tail _ (.tail _ (.tail _ (.head _))))))))))
          have O1 : LexOn w zz lf fix ([(ll, W.listOf #[] 0), (c', occ), (145, tabObj #[rawInt 138, rawInt 44, .ref c']), (lw, W.listOf (vs.toArray.push (.str ⟨sl.toArray⟩ tj)) (cap + 1)), (dm, om2), (D, oD), (ld, ode), (L' + 1 + 1 + 1, oT), (L' + 1 + 1, oN), (L' + 1, c3)] ++ tail) base := by
            dsimp only [List.cons_append, List.nil_append]
            obtain ⟨p0, p1, p2, p3, p4, p5, p6, p7, p8, p9, p10, p11, p12, p13, -⟩ := l1
            refine LexOn.cons (LexOn.cons (LexOn.cons (LexOn.cons (LexOn.cons (LexOn.cons (LexOn.cons (LexOn.cons (LexOn.cons (LexOn.cons O ?_) ?_) ?_) ?_) ?_) ?_) ?_) ?_) ?_) ?_
            all_goals first | exact ⟨hcl1, hcl2, hcl3⟩ | exact ⟨(by k_ne), (by k_ne), (by k_ne)⟩
          k_dflt (refine' code_at (push_spec fB gF fX (lits_all [(ll, W.listOf #[] 0), (c', occ), (145, tabObj #[rawInt 138, rawInt 44, .ref c']), (lw, W.listOf (vs.toArray.push (.str ⟨sl.toArray⟩ tj)) (cap + 1)), (dm, om2), (D, oD), (ld, ode), (L' + 1 + 1 + 1, oT), (L' + 1 + 1, oN), (L' + 1, c3)] gN) fT ?hk O1 ?hlen ?h) ?b1 ?b2 ?b3 ?b4 ?b5)
          case b1 => exact rfl
          case b2 => exact rfl
          case b3 => exact rfl
          case b4 => exact Nat.le_of_ble_eq_true rfl
          case b5 => exact Nat.le_of_ble_eq_true rfl
          case hk => exact rfl
          case hlen => omega
          case h =>
            clear gF gN
            intro h9 tk9 npb9 fF fN
            replace fN := all_lits [(ll, W.listOf #[] 0), (c', occ), (145, tabObj #[rawInt 138, rawInt 44, .ref c']), (lw, W.listOf (vs.toArray.push (.str ⟨sl.toArray⟩ tj)) (cap + 1)), (dm, om2), (D, oD), (ld, ode), (L' + 1 + 1 + 1, oT), (L' + 1 + 1, oN), (L' + 1, c3)] fN
            dsimp only [lexAll, lexLed, List.cons_append, List.nil_append] at fN
            k_steps
            trace "END3"
            (rename Fr g' _ _ _ => gF); (rename News g' _ _ _ => gN)
            rw [List.push_toArray] at gN
            refine h _ _ _ c' occ cvs t _ sl tj gF (fun z z1 z2 z3 => ?_) hcv hcv1 lfc hsl rfl ?_
            · simp only [if_neg z1, if_neg z2, if_neg z3]
              exact hm' z
            · rw [if_pos ⟨hs0, hvl⟩]
              refine ⟨ll, om2, npb9, 0, gN, hom2, ?_, ?_⟩
              · have q := l1.2.2.2.2.2.2.2.2.2.2.2.2.2.2.2
                exact kst_ltOf q
              · exact ⟨l1.2.2.1, l1.1⟩
theorem all_cut : ∀ w p loose mean mg mb A₀ base g' L' m cn cs ca L ccd cl outer gd s Q E name params pre rest rr wr wore fore wtest ftgt fiter wpos fpos dV kV doc pm ct oc an od osl tail fix tlx zz ld lf dm D lw ode oN oT om oD c3 nl npb cap ln tln tb vs pbs kvs ovs wl tkl ch tw tc ttk, Pcut w p loose mean mg mb A₀ base g' L' m cn cs ca L ccd cl outer gd s Q E name params pre rest rr wr wore fore wtest ftgt fiter wpos fpos dV kV doc pm ct oc an od osl tail fix tlx zz ld lf dm D lw ode oN oT om oD c3 nl npb cap ln tln tb vs pbs kvs ovs wl tkl ch tw tc ttk := by
  have h : Pcut w p loose mean mg mb A₀ base g' L' m cn cs ca L ccd cl outer gd s Q E name params pre rest rr wr wore fore wtest ftgt fiter wpos fpos dV kV doc pm ct oc an od osl tail fix tlx zz ld lf dm D lw ode oN oT om oD c3 nl npb cap ln tln tb vs pbs kvs ovs wl tkl ch tw tc ttk := at_cut
  delta w p loose mean mg mb A₀ base g' L' m cn cs ca L ccd cl outer gd s Q E name params pre rest rr wr wore fore wtest ftgt fiter wpos fpos dV kV doc pm ct oc an od osl tail fix tlx zz ld lf dm D lw ode oN oT om oD c3 nl npb cap ln tln tb vs pbs kvs ovs wl tkl ch tw tc ttk at h
  exact fun w p loose mean mg mb A₀ base g' L' m cn cs ca L ccd cl outer gd s Q E name params pre rest rr wr wore fore wtest ftgt fiter wpos fpos dV kV doc pm ct oc an od osl tail fix tlx zz ld lf dm D lw ode oN oT om oD c3 nl npb cap ln tln tb vs pbs kvs ovs wl tkl ch tw tc ttk => Classical.choose_spec ex_cut h ((w, p, loose, mean, mg, mb, A₀, base, g'), (L', m, cn, cs, ca, L, ccd, cl, outer), (gd, s, Q, E, name, params, pre, rest, rr), (wr, wore, fore, wtest, ftgt, fiter, wpos, fpos, dV), (kV, doc, pm, ct, oc, an, od, osl, tail), (fix, tlx, zz, ld, lf, dm, D, lw, ode), (oN, oT, om, oD, c3, nl, npb, cap, ln), (tln, tb, vs, pbs, kvs, ovs, wl, tkl, ch), (tw, tc, ttk))
end K_turn_spec
theorem turn_spec : type_of% (@Subtype.property _ _ K_turn_spec.cut (no_implicit_lambda% K_turn_spec.all_cut)) := no_implicit_lambda% (@Subtype.property _ _ K_turn_spec.cut (no_implicit_lambda% K_turn_spec.all_cut))
end Mine
end
section
open PySem PySem.W PyProof.Rows PySem.Spec PySem.Calls
set_option maxRecDepth 100000
namespace Mine
open Plain (Wd Bk lft addTo one turn run)
noncomputable abbrev wdL (w : Wd) : List Nat := w.map fun k => 97 + k
noncomputable abbrev wdS (w : Wd) : Str := ⟨(wdL w).toArray⟩
theorem wdL_inj {a b : Wd} (h : wdL a = wdL b) : a = b := by
  induction a generalizing b with
  | nil => cases b with
    | nil => rfl
    | cons _ _ => simp [wdL] at h
  | cons x r ih => cases b with
    | nil => simp [wdL] at h
    | cons y t =>
      simp only [wdL, List.map_cons, List.cons.injEq] at h
      rw [show x = y by omega, ih h.2]
theorem wdS_inj {a b : Wd} (h : wdS a = wdS b) : a = b := by
  have := congrArg (fun x : Str => x.cps.toList) h
  exact wdL_inj (by simpa using this)
/-- the pure state: its words, their lefts, who waits -/
structure PInv (n : Nat) (s : Bk) : Prop where
  nd : (s.book.map (·.1)).Nodup
  sub : ∀ e ∈ s.book, e.1.Sublist [0, 1, 2, 3, 4]
  q : ∀ w ∈ s.queue, w ∈ s.book.map (·.1) ∧ w ≠ []
  b1 : s.book.length ≤ n
  b2 : s.queue.length ≤ n
  b3 : ∀ e ∈ s.book, e.2.length ≤ n
theorem addTo_keys (w l : Wd) : ∀ b, (addTo w l b).map (·.1) = b.map (·.1) := by
  intro b
  induction b with
  | nil => rfl
  | cons e r ih =>
    obtain ⟨u, ls⟩ := e
    unfold addTo
    split
    · rfl
    · simp only [List.map_cons, ih]
theorem addTo_mem {w l : Wd} : ∀ {b : List (Wd × List Wd)} {e}, e ∈ addTo w l b → e ∈ b ∨ ∃ e' ∈ b, e.1 = e'.1 ∧ e.2 = e'.2 ++ [l] := by
  intro b
  induction b with
  | nil => intro e h; cases h
  | cons x r ih =>
    obtain ⟨u, ls⟩ := x
    intro e h
    unfold addTo at h
    split at h
    · rcases List.mem_cons.mp h with rfl | h
      · exact .inr ⟨_, .head _, rfl, rfl⟩
      · exact .inl (.tail _ h)
    · rcases List.mem_cons.mp h with rfl | h
      · exact .inl (.head _)
      · rcases ih h with h | ⟨e', h, r'⟩
        · exact .inl (.tail _ h)
        · exact .inr ⟨e', .tail _ h, r'⟩
theorem addTo_mid {w l : Wd} {ls : List Wd} {post : List (Wd × List Wd)} : ∀ {pre : List (Wd × List Wd)}, w ∉ pre.map (·.1) → addTo w l (pre ++ (w, ls) :: post) = pre ++ (w, ls ++ [l]) :: post := by
  intro pre
  induction pre with
  | nil => intro _; simp [addTo]
  | cons x r ih =>
    obtain ⟨u, us⟩ := x
    intro h
    simp only [List.map_cons, List.mem_cons, not_or] at h
    simp only [List.cons_append, addTo]
    rw [if_neg (by simpa using fun e => h.1 e.symm), ih h.2]
theorem any_key {b : List (Wd × List Wd)} {l : Wd} : (b.any fun e => e.1 == l) = decide (l ∈ b.map (·.1)) := by
  rw [Bool.eq_iff_iff, List.any_eq_true, decide_eq_true_iff, List.mem_map]
  constructor
  · rintro ⟨e, he, h⟩
    exact ⟨e, he, by simpa using h⟩
  · rintro ⟨e, he, h⟩
    exact ⟨e, he, by simpa using h⟩
theorem one_new {rel : Nat → Nat → Bool} {w : Wd} {s : Bk} {i : Nat} (h : lft rel w i ≠ [] ∧ lft rel w i ∉ s.book.map (·.1)) : one rel w s i = { book := addTo w (lft rel w i) s.book ++ [(lft rel w i, [])], queue := s.queue ++ [lft rel w i] } := by
  unfold one
  dsimp only
  rw [if_pos]
  rw [any_key, addTo_keys]
  simp only [Bool.and_eq_true, bne_iff_ne, ne_eq, Bool.not_eq_true', decide_eq_false_iff_not]
  exact h
theorem one_old {rel : Nat → Nat → Bool} {w : Wd} {s : Bk} {i : Nat} (h : ¬ (lft rel w i ≠ [] ∧ lft rel w i ∉ s.book.map (·.1))) : one rel w s i = { s with book := addTo w (lft rel w i) s.book } := by
  unfold one
  dsimp only
  rw [if_neg]
  rw [any_key, addTo_keys]
  simp only [Bool.and_eq_true, bne_iff_ne, ne_eq, Bool.not_eq_true', decide_eq_false_iff_not]
  exact h
theorem one_keys {rel : Nat → Nat → Bool} {w : Wd} {s : Bk} {i : Nat} {k : Wd} (h : k ∈ s.book.map (·.1)) : k ∈ (one rel w s i).book.map (·.1) := by
  by_cases hn : lft rel w i ≠ [] ∧ lft rel w i ∉ s.book.map (·.1)
  · rw [one_new hn]
    dsimp only
    rw [List.map_append, addTo_keys]
    exact List.mem_append_left _ h
  · rw [one_old hn]
    dsimp only
    rw [addTo_keys]
    exact h
theorem one_inv {rel : Nat → Nat → Bool} {w : Wd} {s : Bk} {i n : Nat} (I : PInv n s) (hw : w.Sublist [0, 1, 2, 3, 4]) : PInv (n + 1) (one rel w s i) := by
  have hl : (lft rel w i).Sublist [0, 1, 2, 3, 4] := List.filter_sublist.trans hw
  have sub' : ∀ e ∈ addTo w (lft rel w i) s.book, e.1.Sublist [0, 1, 2, 3, 4] := fun e he => by
    rcases addTo_mem he with h | ⟨e', h, r, _⟩
    · exact I.sub e h
    · rw [r]; exact I.sub e' h
  have b3' : ∀ e ∈ addTo w (lft rel w i) s.book, e.2.length ≤ n + 1 := fun e he => by
    rcases addTo_mem he with h | ⟨e', h, _, r⟩
    · exact Nat.le_succ_of_le (I.b3 e h)
    · rw [r, List.length_append]
      have := I.b3 e' h
      simp
      omega
  have hlen : (addTo w (lft rel w i) s.book).length = s.book.length := by
    have := congrArg List.length (addTo_keys w (lft rel w i) s.book)
    simpa using this
  by_cases hn : lft rel w i ≠ [] ∧ lft rel w i ∉ s.book.map (·.1)
  · rw [one_new hn]
    refine ⟨?_, ?_, ?_, ?_, ?_, ?_⟩ <;> dsimp only
    · rw [List.map_append, addTo_keys]
      refine List.nodup_append.mpr ⟨I.nd, by simp, fun a ha b hb => ?_⟩
      simp only [List.map_cons, List.map_nil, List.mem_singleton] at hb
      rw [hb]
      exact fun e => hn.2 (e ▸ ha)
    · intro e he
      rcases List.mem_append.mp he with he | he
      · exact sub' e he
      · rw [List.mem_singleton.mp he]; exact hl
    · intro u hu
      rw [List.map_append, addTo_keys]
      rcases List.mem_append.mp hu with hu | hu
      · exact ⟨List.mem_append_left _ (I.q u hu).1, (I.q u hu).2⟩
      · rw [List.mem_singleton.mp hu]
        exact ⟨List.mem_append_right _ (by simp), hn.1⟩
    · rw [List.length_append, hlen]; have := I.b1; simp; omega
    · rw [List.length_append]; have := I.b2; simp; omega
    · intro e he
      rcases List.mem_append.mp he with he | he
      · exact b3' e he
      · rw [List.mem_singleton.mp he]; simp
  · rw [one_old hn]
    refine ⟨?_, ?_, ?_, ?_, ?_, ?_⟩ <;> dsimp only
    · rw [addTo_keys]; exact I.nd
    · exact sub'
    · rw [addTo_keys]; exact I.q
    · rw [hlen]; exact Nat.le_succ_of_le I.b1
    · exact Nat.le_succ_of_le I.b2
    · exact b3'
theorem fold_inv {rel : Nat → Nat → Bool} {w : Wd} (hw : w.Sublist [0, 1, 2, 3, 4]) : ∀ {l : List Nat} {s : Bk} {n : Nat}, PInv n s → PInv (n + l.length) (l.foldl (one rel w) s) := by
  intro l
  induction l with
  | nil => exact fun I => I
  | cons a r ih =>
    intro s n I
    have := ih (one_inv (rel := rel) (i := a) I hw)
    rw [List.length_cons, Nat.add_comm r.length 1, ← Nat.add_assoc]
    exact this
theorem fold_keys {rel : Nat → Nat → Bool} {w k : Wd} : ∀ {l : List Nat} {s : Bk}, k ∈ s.book.map (·.1) → k ∈ (l.foldl (one rel w) s).book.map (·.1) := by
  intro l
  induction l with
  | nil => exact fun h => h
  | cons a r ih => exact fun h => ih (one_keys h)
theorem pop_inv {s : Bk} {w : Wd} {q : List Wd} {n : Nat} (I : PInv n s) (h : s.queue = w :: q) : PInv n { s with queue := q } :=
  ⟨I.nd, I.sub, fun u hu => I.q u (h ▸ .tail _ hu), I.b1, by have := I.b2; rw [h] at this; simp at this; dsimp only; omega, I.b3⟩
theorem start_inv : PInv 1 Plain.start := by
  refine ⟨?_, ?_, ?_, ?_, ?_, ?_⟩
  · simp [Plain.start]
  · intro e he
    simp only [Plain.start, List.mem_singleton] at he
    rw [he]
    exact List.Sublist.refl _
  · intro w hw
    simp only [Plain.start, List.mem_singleton] at hw
    rw [hw]
    simp [Plain.start]
  · simp [Plain.start]
  · simp [Plain.start]
  · intro e he
    simp only [Plain.start, List.mem_singleton] at he
    rw [he]; simp
/-- the relation of the rows -/
noncomputable def relR (rows : List Row) (i j : Nat) : Bool := match rows[i]?, rows[j]? with
  | some r, some q => lessR r q
  | _, _ => false
theorem rows_five {rows : List Row} (h : rows.map (·.nm) = [⟨#[97]⟩, ⟨#[98]⟩, ⟨#[99]⟩, ⟨#[100]⟩, ⟨#[101]⟩]) : ∃ a b c d e : Row, rows = [a, b, c, d, e] ∧ a.nm = sgn 97 ∧ b.nm = sgn 98 ∧ c.nm = sgn 99 ∧ d.nm = sgn 100 ∧ e.nm = sgn 101 := by
  obtain ⟨a, r1, rfl, ha, h⟩ := List.map_eq_cons_iff.mp h
  obtain ⟨b, r2, rfl, hb, h⟩ := List.map_eq_cons_iff.mp h
  obtain ⟨c, r3, rfl, hc, h⟩ := List.map_eq_cons_iff.mp h
  obtain ⟨d, r4, rfl, hd, h⟩ := List.map_eq_cons_iff.mp h
  obtain ⟨e, r5, rfl, he, h⟩ := List.map_eq_cons_iff.mp h
  obtain rfl := List.map_eq_nil_iff.mp h
  exact ⟨a, b, c, d, e, rfl, ha, hb, hc, hd, he⟩
theorem filt_two {f : Row → Bool} {p : Nat → Bool} {xs : List Row} {ks : List Nat} (h : Paired (fun x k => f x = p k ∧ x.nm = sgn (97 + k)) xs ks) : (xs.filter f).map (·.nm) = ((ks.filter p).map fun k => 97 + k).map sgn := by
  induction h with
  | nil => rfl
  | @cons x k _ _ a _ ih =>
    rw [List.filter_cons, List.filter_cons, a.1]
    cases p k with
    | false => exact ih
    | true => exact (congrArg (List.cons x.nm) ih).trans (congrArg (List.cons · _) a.2)
theorem taken_cps {rows : List Row} (h : rows.map (·.nm) = [⟨#[97]⟩, ⟨#[98]⟩, ⟨#[99]⟩, ⟨#[100]⟩, ⟨#[101]⟩]) {j : Nat} {r : Row} (hr : rows[j]? = some r) :
    (takenOf rows r).cps.toList = (97 + j) :: (((List.range 5).filter (relR rows j)).map fun k => 97 + k) := by
  have key : (rows.filter (lessR r)).map (·.nm) = (((List.range 5).filter (relR rows j)).map fun k => 97 + k).map sgn := by
    obtain ⟨a, b, c, d, e, rfl, ha, hb, hc, hd, he⟩ := rows_five h
    have rr : ∀ k q, [a, b, c, d, e][k]? = some q → lessR r q = relR [a, b, c, d, e] j k := fun k q hk => by
      unfold relR
      rw [hr, hk]
    exact filt_two (.cons ⟨rr 0 a rfl, ha⟩ (.cons ⟨rr 1 b rfl, hb⟩ (.cons ⟨rr 2 c rfl, hc⟩ (.cons ⟨rr 3 d rfl, hd⟩ (.cons ⟨rr 4 e rfl, he⟩ .nil)))))
  have hn : r.nm = sgn (97 + j) := by
    obtain ⟨a, b, c, d, e, rfl, ha, hb, hc, hd, he⟩ := rows_five h
    have hj : j < 5 := (List.getElem?_eq_some_iff.mp hr).1
    exact five (P := fun j => [a, b, c, d, e][j]? = some r → r.nm = sgn (97 + j)) (fun h => Option.some.inj h ▸ ha) (fun h => Option.some.inj h ▸ hb) (fun h => Option.some.inj h ▸ hc) (fun h => Option.some.inj h ▸ hd) (fun h => Option.some.inj h ▸ he) j hj hr
  unfold takenOf
  rw [key, join_signs, hn]
  simp [Str.cps_append]
theorem filter_lft {rows : List Row} (h : rows.map (·.nm) = [⟨#[97]⟩, ⟨#[98]⟩, ⟨#[99]⟩, ⟨#[100]⟩, ⟨#[101]⟩]) {j : Nat} {r : Row} (hr : rows[j]? = some r) {w : Wd} (hw : w.Sublist [0, 1, 2, 3, 4]) :
    ((wdL w).filter fun c => !(decide (c ∈ (takenOf rows r).cps.toList))) = wdL (lft (relR rows) w j) := by
  rw [taken_cps h hr]
  unfold wdL lft
  rw [List.filter_map]
  congr 1
  refine List.filter_congr fun k hk => ?_
  have hk5 : k < 5 := by
    have := hw.subset hk
    simp at this
    omega
  show (!decide (97 + k ∈ _)) = _
  congr 1
  rw [Bool.eq_iff_iff, decide_eq_true_iff, Bool.or_eq_true, beq_iff_eq, List.mem_cons, List.mem_map]
  constructor
  · rintro (e | ⟨x, hx, e⟩)
    · exact .inl (by omega)
    · rw [List.mem_filter] at hx
      exact .inr ((show x = k by omega) ▸ hx.2)
  · rintro (e | e)
    · exact .inl (by omega)
    · exact .inr ⟨k, List.mem_filter.mpr ⟨List.mem_range.mpr hk5, e⟩, rfl⟩
/-- an entry of the book: a word, where its list lies, its lefts -/
structure BE where
  w : Wd
  la : Addr
  ls : List Wd
  vs : List Value
  cap : Nat
noncomputable abbrev bookLed (b : List BE) : List (Addr × Obj) := b.map fun e => (e.la, W.listOf e.vs.toArray e.cap)
noncomputable abbrev bookKvs (b : List BE) : List (Str × Value) := b.map fun e => (wdS e.w, Value.ref e.la)
noncomputable abbrev bookP (b : List BE) : List (Wd × List Wd) := b.map fun e => (e.w, e.ls)
structure WS where
  book : List BE
  om : Obj
  npb : Nat
  pbs : List Value
  tb : Array Value
  tl : List (Addr × Obj)
noncomputable def TbOk (tb : Array Value) (tl : List (Addr × Obj)) : Prop := tb = #[] ∨ ∃ c' occ vs t, tb = #[rawInt 138, rawInt 44, .ref c'] ∧ (c', occ) ∈ tl ∧ occ.data = .fields vs ∧ vs[1]? = some (.str (Str.ofString "_law_moves.<locals>.<lambda>") t)
/-- what the ledger's book says of the pure state -/
structure WInv (w : World) (dm : Addr) (s : Bk) (st : WS) : Prop where
  hb : bookP st.book = s.book
  hq : StrsAre st.pbs (s.queue.map wdS)
  hok : ∀ e ∈ st.book, StrsAre e.vs (e.ls.map wdS)
  hom : st.om.IsDictOf (PySem.strKind Challenge.rw_pg0196_01.row.prog w) (bookKvs st.book)
  htb : TbOk st.tb st.tl
  hlt : ∀ p ∈ st.tl ++ bookLed st.book, @LT.lt Nat _ dm p.1
  hnd : ((st.tl ++ bookLed st.book).map (·.1)).Nodup
theorem valueAt_mem {K : Type} [DecidableEq K] {kvs : List (K × Value)} (hn : (kvs.map Prod.fst).Nodup) {k : K} {v : Value} (h : (k, v) ∈ kvs) : valueAt kvs k = some v := by
  induction kvs with
  | nil => cases h
  | cons a r ih =>
    rw [List.map_cons, List.nodup_cons] at hn
    unfold valueAt
    rw [List.find?_cons]
    rcases List.mem_cons.mp h with rfl | h
    · simp
    · have hne : a.1 ≠ k := fun e => hn.1 (e ▸ List.mem_map.mpr ⟨_, h, rfl⟩)
      simp only [hne, decide_false]
      exact ih hn.2 h
theorem valueAt_none {K : Type} [DecidableEq K] {kvs : List (K × Value)} {k : K} : valueAt kvs k = none ↔ k ∉ kvs.map Prod.fst := by
  unfold valueAt
  rw [Option.map_eq_none_iff, List.find?_eq_none]
  constructor
  · intro h hm
    obtain ⟨p, hp, e⟩ := List.mem_map.mp hm
    exact h p hp (by simpa using e)
  · intro h p hp e
    exact h (List.mem_map.mpr ⟨p, hp, by simpa using e⟩)
theorem bookKvs_fst (b : List BE) : (bookKvs b).map Prod.fst = ((bookP b).map (·.1)).map wdS := by simp [bookKvs, bookP]
theorem book_value {b : List BE} (hn : ((bookP b).map (·.1)).Nodup) {e : BE} (he : e ∈ b) : valueAt (bookKvs b) (wdS e.w) = some (.ref e.la) := by
  refine valueAt_mem ?_ (List.mem_map.mpr ⟨e, he, rfl⟩)
  rw [bookKvs_fst]
  exact List.Pairwise.map _ (fun a b hab e => hab (wdS_inj e)) hn
theorem book_none {b : List BE} {l : Wd} : valueAt (bookKvs b) (wdS l) = none ↔ l ∉ (bookP b).map (·.1) := by
  rw [valueAt_none, bookKvs_fst]
  refine not_congr ?_
  rw [List.mem_map]
  constructor
  · rintro ⟨a, ha, e⟩
    exact wdS_inj e ▸ ha
  · exact fun h => ⟨l, h, rfl⟩
theorem LexOn.app {w : World} {z : LexH} {lf : Addr} {fix rest : List (Addr × Obj)} {base : Heap} (O : LexOn w z lf fix rest base) : ∀ {ex : List (Addr × Obj)}, (∀ p ∈ ex, OffLex z lf p) → LexOn w z lf fix (rest ++ ex) base := by
  intro ex h
  obtain ⟨nx, hf, off, ch⟩ := O
  have key : ∀ {d : Addr}, (∀ p ∈ fix ++ rest, p.1 ≠ d) → (∀ p ∈ ex, @Ne Nat p.1 d) → ∀ p ∈ fix ++ (rest ++ ex), p.1 ≠ d := fun H ha p hp => by
    rcases List.mem_append.mp hp with hp | hp
    · exact H p (List.mem_append_left _ hp)
    · rcases List.mem_append.mp hp with hp | hp
      · exact H p (List.mem_append_right _ hp)
      · exact ha p hp
  exact ⟨nx, hf, { off with r1 := key off.r1 fun p hp => (h p hp).1, r2 := key off.r2 fun p hp => (h p hp).2.1, r3 := key off.r3 fun p hp => (h p hp).2.2 }, ch⟩
end Mine
end
section
open PySem PySem.W PyProof.Rows PySem.Spec PySem.Calls
set_option maxRecDepth 100000
namespace Mine
open Plain (Wd Bk lft addTo one turn run)
/-- the loop's state: the list of the word at hand, the words behind it -/
structure FS where
  ls : List Wd
  vs : List Value
  cap : Nat
  post : List BE
  om : Obj
  npb : Nat
  pbs : List Value
  tb : Array Value
  tl : List (Addr × Obj)
noncomputable abbrev FS.ws (preB : List BE) (wd : Wd) (lw : Addr) (st : FS) : WS := ⟨preB ++ ⟨wd, lw, st.ls, st.vs, st.cap⟩ :: st.post, st.om, st.npb, st.pbs, st.tb, st.tl⟩
/-- what stands still while the word is worked on -/
structure FC where
  lw : Addr
  dm : Addr
  D : Addr
  ld : Addr
  L : Addr
  lf : Addr
  oD : Obj
  ode : Obj
  oT : Obj
  c3 : Obj
  nl : Nat
  ln : Int
  tln : Tok
  zz : LexH
  fix : List (Addr × Obj)
  tail : List (Addr × Obj)
noncomputable abbrev FC.front (k : FC) (st : FS) : List (Addr × Obj) := (145, tabObj st.tb) :: (k.lw, W.listOf st.vs.toArray st.cap) :: (k.dm, st.om) :: (k.D, k.oD) :: (k.ld, k.ode) :: (k.L + 1 + 1 + 1, k.oT) :: (k.L + 1, k.c3) :: (k.lf, W.listOf #[] k.nl) :: lexLed k.zz k.ln k.tln st.pbs st.npb
noncomputable abbrev FC.led (k : FC) (preB : List BE) (st : FS) : List (Addr × Obj) := k.front st ++ (k.fix ++ (k.tail ++ (st.tl ++ bookLed (preB ++ st.post))))
/-- the places of the front stay -/
theorem FC.front_off {k : FC} {a b : FS} {I : Addr} (h : ∀ p ∈ k.front a, @Ne Nat p.1 I) : ∀ p ∈ k.front b, @Ne Nat p.1 I := fun p hp => by
  have e : (k.front b).map (·.1) = (k.front a).map (·.1) := rfl
  have : p.1 ∈ (k.front a).map (·.1) := e ▸ List.mem_map.mpr ⟨p, hp, rfl⟩
  obtain ⟨q, hq, e2⟩ := List.mem_map.mp this
  exact e2 ▸ h q hq
/-- the order of places -/
structure FCok (k : FC) : Prop where
  l3 : @LT.lt Nat _ 145 k.L
  a : @LT.lt Nat _ (k.L + 1 + 1 + 1) k.lf ∧ @LT.lt Nat _ (k.L + 1 + 1 + 1) k.zz.lx ∧ @LT.lt Nat _ (k.L + 1 + 1 + 1) k.zz.dl ∧ @LT.lt Nat _ (k.L + 1 + 1 + 1) k.zz.st ∧ @LT.lt Nat _ (k.L + 1 + 1 + 1) k.zz.ds ∧ @LT.lt Nat _ (k.L + 1 + 1 + 1) k.zz.pb
  b : @LT.lt Nat _ k.lf k.ld ∧ @LT.lt Nat _ k.zz.lx k.ld ∧ @LT.lt Nat _ k.zz.dl k.ld ∧ @LT.lt Nat _ k.zz.st k.ld ∧ @LT.lt Nat _ k.zz.ds k.ld ∧ @LT.lt Nat _ k.zz.pb k.ld
  d1 : @LT.lt Nat _ k.ld k.D
  d2 : @LT.lt Nat _ k.D k.dm
  d3 : @LT.lt Nat _ k.dm k.lw
  e1 : ∀ p ∈ k.fix ++ k.tail, @LT.lt Nat _ p.1 k.dm
  e2 : ∀ p ∈ k.fix ++ k.tail, @Ne Nat p.1 (k.L + 1 + 1)
  e3 : ∀ p ∈ k.fix ++ k.tail, @Ne Nat p.1 145
/-- nothing of the ledger lies at the name's cell -/
theorem FC.off_cell {k : FC} (o : FCok k) {preB : List BE} {st : FS} (hlt : ∀ p ∈ st.tl ++ bookLed (preB ++ st.post), @LT.lt Nat _ k.dm p.1) : ∀ p ∈ k.led preB st, @Ne Nat p.1 (k.L + 1 + 1) := by
  obtain ⟨l3, ⟨a1, a2, a3, a4, a5, a6⟩, ⟨b1, b2, b3, b4, b5, b6⟩, d1, d2, d3, e1, e2, e3⟩ := o
  intro p hp
  rcases List.mem_append.mp hp with hp | hp
  · simp only [FC.front, lexLed, List.cons_append, List.nil_append, List.mem_cons, List.not_mem_nil, or_false] at hp
    rcases hp with rfl | rfl | rfl | rfl | rfl | rfl | rfl | rfl | rfl | rfl | rfl | rfl | rfl
    all_goals (k_ne)
  · rcases List.mem_append.mp hp with hp | hp
    · exact e2 p (List.mem_append_left _ hp)
    · rcases List.mem_append.mp hp with hp | hp
      · exact e2 p (List.mem_append_right _ hp)
      · have := hlt p hp
        refine neN ?_
        omega
theorem bookLed_app (a b : List BE) : bookLed (a ++ b) = bookLed a ++ bookLed b := by simp [bookLed]
theorem sub_cur {preB : List BE} {st : FS} {wd : Wd} {lw : Addr} : ∀ p ∈ st.tl ++ bookLed (preB ++ st.post), p ∈ st.tl ++ bookLed (preB ++ ⟨wd, lw, st.ls, st.vs, st.cap⟩ :: st.post) := fun p hp => by
  rw [bookLed_app] at hp ⊢
  simp only [bookLed, List.map_cons, List.mem_append, List.mem_cons] at hp ⊢
  rcases hp with hp | hp | hp
  · exact .inl hp
  · exact .inr (.inl hp)
  · exact .inr (.inr (.inr hp))
/-- what lies behind the front, with the loop's own -/
noncomputable abbrev FC.back (k : FC) (preB : List BE) (st : FS) (I : Addr) (oI : Obj) : List (Addr × Obj) := k.tail ++ (st.tl ++ (bookLed (preB ++ st.post) ++ [(I, oI)]))
theorem FC.off_back {k : FC} (o : FCok k) {preB : List BE} {st : FS} {wd : Wd} {w : World} {s : Bk} {I : Addr} {oI : Obj} (V : WInv w k.dm s (st.ws preB wd k.lw)) (hI : ∀ p ∈ k.led preB st, @Ne Nat p.1 I) :
    (∀ p ∈ k.fix ++ k.back preB st I oI, @Ne Nat p.1 k.lw) ∧ (∀ p ∈ k.fix ++ k.back preB st I oI, @Ne Nat p.1 k.dm) ∧ (∀ p ∈ k.fix ++ k.back preB st I oI, @Ne Nat p.1 145) ∧ (∀ p ∈ st.tl ++ (bookLed (preB ++ st.post) ++ [(I, oI)]), OffLex k.zz k.lf p) := by
  obtain ⟨l3, ⟨a1, a2, a3, a4, a5, a6⟩, ⟨b1, b2, b3, b4, b5, b6⟩, d1, d2, d3, e1, e2, e3⟩ := o
  have i1 : @Ne Nat k.lw I := hI (k.lw, _) (.tail _ (.head _))
  have i2 : @Ne Nat k.dm I := hI (k.dm, _) (.tail _ (.tail _ (.head _)))
  have i3 : @Ne Nat 145 I := hI (145, _) (.head _)
  have i4 : @Ne Nat k.lf I := hI (k.lf, _) (.tail _ (.tail _ (.tail _ (.tail _ (.tail _ (.tail _ (.tail _ (.head _))))))))
  have i5 : @Ne Nat k.zz.dl I := hI (k.zz.dl, _) (.tail _ (.tail _ (.tail _ (.tail _ (.tail _ (.tail _ (.tail _ (.tail _ (.head _)))))))))
  have i6 : @Ne Nat k.zz.pb I := hI (k.zz.pb, _) (.tail _ (.tail _ (.tail _ (.tail _ (.tail _ (.tail _ (.tail _ (.tail _ (.tail _ (.head _))))))))))
  have nd := V.hnd
  have lt := V.hlt
  have sub : ∀ p ∈ st.tl ++ bookLed (preB ++ st.post), p ∈ st.tl ++ bookLed (preB ++ ⟨wd, k.lw, st.ls, st.vs, st.cap⟩ :: st.post) := sub_cur
  have lt' : ∀ p ∈ st.tl ++ bookLed (preB ++ st.post), @LT.lt Nat _ k.dm p.1 := fun p hp => lt p (sub p hp)
  have nlw : ∀ p ∈ st.tl ++ bookLed (preB ++ st.post), @Ne Nat p.1 k.lw := by
    have perm : (st.tl ++ bookLed (preB ++ ⟨wd, k.lw, st.ls, st.vs, st.cap⟩ :: st.post)).Perm ((k.lw, W.listOf st.vs.toArray st.cap) :: (st.tl ++ bookLed (preB ++ st.post))) := by
      rw [bookLed_app, bookLed_app, ← List.append_assoc, ← List.append_assoc]
      exact List.perm_middle
    have nd2 := (perm.map (·.1)).nodup_iff.mp nd
    rw [List.map_cons, List.nodup_cons] at nd2
    exact fun p hp e => nd2.1 (List.mem_map.mpr ⟨p, hp, e⟩)
  have split : ∀ {d : Nat}, (∀ p ∈ k.fix ++ k.tail, @Ne Nat p.1 d) → (∀ p ∈ st.tl ++ bookLed (preB ++ st.post), @Ne Nat p.1 d) → @Ne Nat d I → ∀ p ∈ k.fix ++ k.back preB st I oI, @Ne Nat p.1 d := fun {d} h1 h2 h3 p hp => by
    rcases List.mem_append.mp hp with hp | hp
    · exact h1 p (List.mem_append_left _ hp)
    · rcases List.mem_append.mp hp with hp | hp
      · exact h1 p (List.mem_append_right _ hp)
      · rcases List.mem_append.mp hp with hp | hp
        · exact h2 p (List.mem_append_left _ hp)
        · rcases List.mem_append.mp hp with hp | hp
          · exact h2 p (List.mem_append_right _ hp)
          · rw [List.mem_singleton.mp hp]; exact h3.symm
  refine ⟨split (fun p hp => ?_) nlw i1, split (fun p hp => ?_) (fun p hp => ?_) i2, split e3 (fun p hp => ?_) i3, fun p hp => ?_⟩
  · have := e1 p hp; k_ne
  · have := e1 p hp; k_ne
  · have := lt' p hp; k_ne
  · have := lt' p hp; k_ne
  · rw [← List.append_assoc] at hp
    rcases List.mem_append.mp hp with hp | hp
    · have := lt' p hp
      exact ⟨neN (by k_extra "n:c"), neN (by k_extra "n:c"), neN (by k_extra "n:c")⟩
    · rw [List.mem_singleton.mp hp]
      exact ⟨i4.symm, i5.symm, i6.symm⟩
end Mine
end
section
open PySem PySem.W PyProof.Rows PySem.Spec PySem.Calls
set_option maxRecDepth 100000
namespace Mine
open Plain (Wd Bk lft addTo one turn run)
theorem strs_snoc {vs : List Value} {ss : List Str} {x : Str} {t : Tok} (h : StrsAre vs ss) : StrsAre (vs ++ [.str x t]) (ss ++ [x]) := by
  induction h with
  | nil => exact .cons _ _ .nil
  | cons y u _ ih => exact .cons y u ih
section
variable {w : World} {k : FC} {preB : List BE} {st : FS} {wd l : Wd} {s : Bk} {n j : Nat} {rel : Nat → Nat → Bool} {c' : Addr} {occ : Obj} {cvs : Array Value} {t tv : Tok}
/-- the code's object lies there, or lies there from now on -/
theorem tl_next (V : WInv w k.dm s (st.ws preB wd k.lw)) (hd : occ.data = .fields cvs) (hv : cvs[1]? = some (.str (Str.ofString "_law_moves.<locals>.<lambda>") t))
    (hc : (c', occ) ∈ st.tl ∨ (@LT.lt Nat _ k.dm c' ∧ ∀ p ∈ st.tl ++ bookLed (preB ++ ⟨wd, k.lw, st.ls, st.vs, st.cap⟩ :: st.post), @LT.lt Nat _ p.1 c')) :
    ∃ tl', TbOk #[rawInt 138, rawInt 44, .ref c'] tl' ∧ (∀ p ∈ tl', p ∈ st.tl ∨ p = (c', occ)) ∧ (∀ p ∈ tl' ++ bookLed (preB ++ ⟨wd, k.lw, st.ls, st.vs, st.cap⟩ :: st.post), @LT.lt Nat _ k.dm p.1) ∧ ((tl' ++ bookLed (preB ++ ⟨wd, k.lw, st.ls, st.vs, st.cap⟩ :: st.post)).map (·.1)).Nodup := by
  rcases hc with hc | ⟨h1, h2⟩
  · exact ⟨st.tl, .inr ⟨c', occ, cvs, t, rfl, hc, hd, hv⟩, fun p hp => .inl hp, V.hlt, V.hnd⟩
  · refine ⟨(c', occ) :: st.tl, .inr ⟨c', occ, cvs, t, rfl, .head _, hd, hv⟩, fun p hp => ?_, fun p hp => ?_, ?_⟩
    · rcases List.mem_cons.mp hp with rfl | hp
      · exact .inr rfl
      · exact .inl hp
    · rcases List.mem_cons.mp hp with rfl | hp
      · exact h1
      · exact V.hlt p hp
    · rw [List.cons_append, List.map_cons, List.nodup_cons]
      refine ⟨fun hm => ?_, V.hnd⟩
      obtain ⟨p, hp, e⟩ := List.mem_map.mp hm
      exact Nat.ne_of_lt (h2 p hp) e
theorem mid_key (V : WInv w k.dm s (st.ws preB wd k.lw)) (I : PInv n s) : wd ∉ (bookP preB).map (·.1) := by
  have h := I.nd
  rw [← V.hb] at h
  simp only [FS.ws, bookP, List.map_append, List.map_cons] at h
  rw [List.nodup_append] at h
  exact fun hm => h.2.2 _ hm _ (.head _) rfl
theorem book_old {vs : List Value} {cap : Nat} (V : WInv w k.dm s (st.ws preB wd k.lw)) (I : PInv n s) : bookP (preB ++ ⟨wd, k.lw, st.ls ++ [l], vs, cap⟩ :: st.post) = addTo wd l s.book := by
  rw [← V.hb]
  simp only [FS.ws, bookP, List.map_append, List.map_cons]
  exact (addTo_mid (mid_key V I)).symm
theorem led_cur {ls : List Wd} {vs : List Value} {cap : Nat} : (bookLed (preB ++ ⟨wd, k.lw, ls, vs, cap⟩ :: st.post)).map (·.1) = (bookLed (preB ++ ⟨wd, k.lw, st.ls, st.vs, st.cap⟩ :: st.post)).map (·.1) := by
  simp [bookLed]
theorem led_lt {tl' : List (Addr × Obj)} {a : Nat} {b b' : List (Addr × Obj)} (e : b.map (·.1) = b'.map (·.1)) (h : ∀ p ∈ tl' ++ b', @LT.lt Nat _ a p.1) : ∀ p ∈ tl' ++ b, @LT.lt Nat _ a p.1 := fun p hp => by
  rcases List.mem_append.mp hp with hp | hp
  · exact h p (List.mem_append_left _ hp)
  · have : p.1 ∈ b'.map (·.1) := e ▸ List.mem_map.mpr ⟨p, hp, rfl⟩
    obtain ⟨q, hq, e2⟩ := List.mem_map.mp this
    exact e2 ▸ h q (List.mem_append_right _ hq)
theorem kvs_cur {ls : List Wd} {vs : List Value} {cap : Nat} : bookKvs (preB ++ ⟨wd, k.lw, ls, vs, cap⟩ :: st.post) = bookKvs (preB ++ ⟨wd, k.lw, st.ls, st.vs, st.cap⟩ :: st.post) := by
  simp [bookKvs]
theorem after_old (V : WInv w k.dm s (st.ws preB wd k.lw)) (I : PInv n s) (hd : occ.data = .fields cvs) (hv : cvs[1]? = some (.str (Str.ofString "_law_moves.<locals>.<lambda>") t))
    (hc : (c', occ) ∈ st.tl ∨ (@LT.lt Nat _ k.dm c' ∧ ∀ p ∈ st.tl ++ bookLed (preB ++ ⟨wd, k.lw, st.ls, st.vs, st.cap⟩ :: st.post), @LT.lt Nat _ p.1 c')) (hn : ¬ (lft rel wd j ≠ [] ∧ lft rel wd j ∉ s.book.map (·.1))) :
    ∃ tl', (∀ p ∈ tl', p ∈ st.tl ∨ p = (c', occ)) ∧ WInv w k.dm (one rel wd s j) (FS.ws preB wd k.lw ⟨st.ls ++ [lft rel wd j], st.vs ++ [.str (wdS (lft rel wd j)) tv], st.cap + 1, st.post, st.om, st.npb, st.pbs, #[rawInt 138, rawInt 44, .ref c'], tl'⟩) := by
  obtain ⟨tl', h1, h2, h3, h4⟩ := tl_next V hd hv hc
  refine ⟨tl', h2, ?_⟩
  have lt3 := led_lt (led_cur (ls := st.ls ++ [lft rel wd j]) (vs := st.vs ++ [.str (wdS (lft rel wd j)) tv]) (cap := st.cap + 1)) h3
  rw [one_old hn]
  refine ⟨book_old V I, V.hq, fun e he => ?_, ?_, h1, lt3, ?_⟩
  · rcases List.mem_append.mp he with he | he
    · exact V.hok e (List.mem_append_left _ he)
    · rcases List.mem_cons.mp he with rfl | he
      · have := V.hok ⟨wd, k.lw, st.ls, st.vs, st.cap⟩ (List.mem_append_right _ (.head _))
        dsimp only at this ⊢
        rw [List.map_append]
        exact strs_snoc this
      · exact V.hok e (List.mem_append_right _ (.tail _ he))
  · have := V.hom
    dsimp only [FS.ws] at this ⊢
    rw [kvs_cur]
    exact this
  · dsimp only [FS.ws]
    rw [List.map_append, led_cur, ← List.map_append]
    exact h4
theorem after_new {ll : Addr} {om' : Obj} {npb' cp : Nat} (V : WInv w k.dm s (st.ws preB wd k.lw)) (I : PInv n s) (hd : occ.data = .fields cvs) (hv : cvs[1]? = some (.str (Str.ofString "_law_moves.<locals>.<lambda>") t))
    (hc : (c', occ) ∈ st.tl ∨ (@LT.lt Nat _ k.dm c' ∧ ∀ p ∈ st.tl ++ bookLed (preB ++ ⟨wd, k.lw, st.ls, st.vs, st.cap⟩ :: st.post), @LT.lt Nat _ p.1 c')) (hn : lft rel wd j ≠ [] ∧ lft rel wd j ∉ s.book.map (·.1))
    (hom : om'.IsDictOf (PySem.strKind Challenge.rw_pg0196_01.row.prog w) (bookKvs (preB ++ ⟨wd, k.lw, st.ls, st.vs, st.cap⟩ :: st.post) ++ [(wdS (lft rel wd j), .ref ll)])) (hll : @LT.lt Nat _ c' ll) (hll2 : ∀ p ∈ st.tl ++ bookLed (preB ++ ⟨wd, k.lw, st.ls, st.vs, st.cap⟩ :: st.post), @LT.lt Nat _ p.1 ll) :
    ∃ tl', (∀ p ∈ tl', p ∈ st.tl ∨ p = (c', occ)) ∧ WInv w k.dm (one rel wd s j) (FS.ws preB wd k.lw ⟨st.ls ++ [lft rel wd j], st.vs ++ [.str (wdS (lft rel wd j)) tv], st.cap + 1, st.post ++ [⟨lft rel wd j, ll, [], [], cp⟩], om', npb', st.pbs ++ [.str (wdS (lft rel wd j)) tv], #[rawInt 138, rawInt 44, .ref c'], tl'⟩) := by
  obtain ⟨tl', h1, h2, h3, h4⟩ := tl_next V hd hv hc
  refine ⟨tl', h2, ?_⟩
  have ebk : ∀ {ls : List Wd} {vs : List Value} {cap : Nat}, preB ++ ⟨wd, k.lw, ls, vs, cap⟩ :: (st.post ++ [⟨lft rel wd j, ll, [], [], cp⟩]) = (preB ++ ⟨wd, k.lw, ls, vs, cap⟩ :: st.post) ++ [⟨lft rel wd j, ll, [], [], cp⟩] := by simp
  have lt3 := led_lt (led_cur (ls := st.ls ++ [lft rel wd j]) (vs := st.vs ++ [.str (wdS (lft rel wd j)) tv]) (cap := st.cap + 1)) h3
  have hdm : @LT.lt Nat _ k.dm ll := by
    have := V.hlt (k.lw, W.listOf st.vs.toArray st.cap) (by simp [FS.ws, bookLed])
    have h5 := hll2 (k.lw, W.listOf st.vs.toArray st.cap) (by simp [bookLed])
    dsimp only at this h5
    exact Nat.lt_trans this h5
  rw [one_new hn]
  refine ⟨?_, ?_, fun e he => ?_, ?_, h1, ?_, ?_⟩
  · have := book_old (l := lft rel wd j) (vs := st.vs ++ [.str (wdS (lft rel wd j)) tv]) (cap := st.cap + 1) V I
    dsimp only [FS.ws]
    rw [ebk, ← this]
    simp [bookP]
  · dsimp only [FS.ws]
    rw [List.map_append]
    exact strs_snoc V.hq
  · dsimp only [FS.ws] at he
    rw [ebk] at he
    rcases List.mem_append.mp he with he | he
    · rcases List.mem_append.mp he with he | he
      · exact V.hok e (List.mem_append_left _ he)
      · rcases List.mem_cons.mp he with rfl | he
        · have := V.hok ⟨wd, k.lw, st.ls, st.vs, st.cap⟩ (List.mem_append_right _ (.head _))
          dsimp only at this ⊢
          rw [List.map_append]
          exact strs_snoc this
        · exact V.hok e (List.mem_append_right _ (.tail _ he))
    · rw [List.mem_singleton.mp he]
      exact .nil
  · dsimp only [FS.ws]
    rw [ebk]
    have e2 : ∀ b : List BE, bookKvs (b ++ [⟨lft rel wd j, ll, [], [], cp⟩]) = bookKvs b ++ [(wdS (lft rel wd j), .ref ll)] := fun b => by simp [bookKvs]
    rw [e2, kvs_cur]
    exact hom
  · dsimp only [FS.ws]
    rw [ebk, bookLed_app, ← List.append_assoc]
    intro p hp
    rcases List.mem_append.mp hp with hp | hp
    · exact lt3 p hp
    · simp only [bookLed, List.map_cons, List.map_nil, List.mem_singleton] at hp
      rw [hp]; exact hdm
  · dsimp only [FS.ws]
    rw [ebk, bookLed_app, ← List.append_assoc, List.map_append, List.map_append, led_cur, ← List.map_append]
    refine List.nodup_append.mpr ⟨h4, by simp [bookLed], fun a ha b hb => ?_⟩
    simp only [bookLed, List.map_cons, List.map_nil, List.mem_singleton] at hb
    rw [hb]
    obtain ⟨p, hp, rfl⟩ := List.mem_map.mp ha
    rcases List.mem_append.mp hp with hp | hp
    · rcases h2 p hp with hp | rfl
      · exact Nat.ne_of_lt (hll2 p (List.mem_append_left _ hp))
      · exact Nat.ne_of_lt hll
    · exact Nat.ne_of_lt (hll2 p (List.mem_append_right _ hp))
end
end Mine
end
section
local macro_rules | `(tactic| walk_at "none") => `(tactic| skip)
theorem Mine.off_W31 : True := by (w_top off; trivial)
open PySem PySem.W PyProof.Rows PySem.Spec PySem.Calls
set_option maxRecDepth 100000
namespace Mine
open Plain (Wd Bk lft addTo one turn run)
def held_W31_1 : List String := "pyIter str".splitOn ";"
local macro_rules | `(tactic| walk_at $s:str) => if held_W31_1.contains s.getString then `(tactic| (k_here; refine hold ?_)) else Lean.Macro.throwUnsupported
local macro_rules | `(tactic| walk_at "exec For Name Name cons nil") => `(tactic| (k_here; refine For_cell ?_))
theorem kstB_at {z : Str} {stored : List Str} {u m : Str → Option Value} (hz : stored.contains z = false) : kstB (fun z => if stored.contains z then u z else m z) [] z = m z := by
  show (if stored.contains z then u z else m z) = _
  rw [if_neg (by rw [hz]; decide)]
theorem wd_sign {wd : Wd} {i ch : Nat} (h : (wdS wd).cps[i]? = some ch) : ∃ j, wd[i]? = some j ∧ ch = 97 + j := by
  simp only [List.getElem?_toArray, List.getElem?_map] at h
  cases hj : wd[i]? with
  | none => rw [hj] at h; cases h
  | some j => rw [hj] at h; exact ⟨j, rfl, (Option.some.inj h).symm⟩
theorem row_at {rows : List Row} (h : rows.map (·.nm) = [⟨#[97]⟩, ⟨#[98]⟩, ⟨#[99]⟩, ⟨#[100]⟩, ⟨#[101]⟩]) {j : Nat} (hj : j < 5) : ∃ r, rows[j]? = some r ∧ r ∈ rows ∧ r.nm = sgn (97 + j) := by
  obtain ⟨a, b, c, d, e, rfl, ha, hb, hc, hd, he⟩ := rows_five h
  exact five (P := fun j => ∃ r, [a, b, c, d, e][j]? = some r ∧ r ∈ [a, b, c, d, e] ∧ r.nm = sgn (97 + j)) ⟨a, rfl, .head _, ha⟩ ⟨b, rfl, .tail _ (.head _), hb⟩ ⟨c, rfl, .tail _ (.tail _ (.head _)), hc⟩ ⟨d, rfl, .tail _ (.tail _ (.tail _ (.head _))), hd⟩ ⟨e, rfl, .tail _ (.tail _ (.tail _ (.tail _ (.head _)))), he⟩ j hj

namespace K_for_spec
set_option maxHeartbeats 1000000 in
noncomputable def cut : (@Subtype Prop fun P => P → ∀ {w : World} {p : Program} {loose : List Str} {mean : ExcName → Option Value} {mg mb : Str → Option Value} {A₀ : Around} {base g' : Heap} {m : Str → Option Value} {cn : Str} {cs : Scope} {ca L : Addr} {ccd : Value} {cl : List (Str × Addr)} {outer : List Env} {gd : Option (List Code)} {s : Shared} {Q : Flow → Shared → Prop} {E : Value → Shared → Prop} {name qual : Str} {params : Arguments} {pre rest rr wr wore fore fbody : List Stmt} {wtest ftgt fiter : PySem.Expr} {wpos fpos : Pos} {scope : Scope} {dV kV doc pm cdv ct oc : Value} {an od : Option Addr} {osl : Array (Option Value)} (hb : (Mine.hd.heap_39 w.params).lookup 148 = some ⟨oc, od, .func (fnOf name qual params (pre ++ rest) scope dV kV doc pm an cdv ct), osl⟩) (hpre : pre.length = 9) (hrest : rest = .While wtest (.For ftgt fiter fbody fore fpos :: wr) wore wpos :: rr) {k : FC} {preB : List BE} {st : FS} {wd : Wd} {s0 : Bk} {n : Nat} {oN : Obj} {ov : Option Value} {tw : Tok} {rows : List Row} {ovs : List (Str × Value)} (B : Below A₀ base (envX cn cs L ca ccd cl :: outer) g') (F : Fr g' k.L s.heap m) (X : (Mine.hd.heap_39 w.params).In g') (T : Top p loose mean mg mb g') (N : News g' k.L s.heap ((k.L + 1 + 1, oN) :: k.led preB st)) (hm1 : m (Str.ofString "lexer") = some (.ref k.zz.lx)) (hm2 : m (Str.ofString "word") = some (.str (wdS wd) tw)) (hm3 : m (Str.ofString "moves") = some (.ref k.dm)) (dN : oN.data = .cell ov) (dT : k.oT.data = .cell (some (.ref k.D))) (hoD : k.oD.IsDictOf (PySem.strKind Challenge.rw_pg0196_01.row.prog w) ovs) (hov : ovs.map Prod.fst = rows.map (·.nm)) (hV : ∀ p ∈ ovs, ∃ r ∈ rows, r.nm = p.1 ∧ ∃ t, p.2 = .str (takenOf rows r) t) (hrows : rows.map (·.nm) = [⟨#[97]⟩, ⟨#[98]⟩, ⟨#[99]⟩, ⟨#[100]⟩, ⟨#[101]⟩]) (hwd : wd.Sublist [0, 1, 2, 3, 4]) (V : WInv w k.dm s0 (st.ws preB wd k.lw)) (I : PInv n s0) (hn : n ≤ 900) (O : LexOn w k.zz k.lf k.fix k.tail base) (CH : CodeHd base 142 138) (CH2 : CodeHd base 147 145) (ok : FCok k) (hsys : (k.dm == sysModules) = false) (hE : PassesOwn (model Challenge.rw_pg0196_01.row.prog w) ((At 30 gd (envX cn cs L ca ccd cl :: outer)).deeper (envOfC qual scope k.L 148 cdv)) (envOfC qual scope k.L 148 cdv) E) (h : ∀ st' oN' ov' h' tk' m', Fr g' k.L h' m' → (∀ z, z ≠ Str.ofString "goes" → z ≠ Str.ofString "stays" → z ≠ Str.ofString "left" → m' z = m z) → News g' k.L h' ((k.L + 1 + 1, oN') :: k.led preB st') → oN'.data = .cell ov' →
      WInv w k.dm (wd.foldl (one (relR rows) wd) s0) (FS.ws preB wd k.lw st') → Q .next { s with heap := h', toks := tk' }), wpAny (model Challenge.rw_pg0196_01.row.prog w) ((At 30 gd (envX cn cs L ca ccd cl :: outer)).deeper (envOfC qual scope k.L 148 cdv)) (exec (.For ftgt fiter fbody fore fpos) (envOfC qual scope k.L 148 cdv)) Q E s) := by
  refine' mkCut fun hole => ?_
  rotate_left
  focus
  intro w p loose mean mg mb A₀ base g' m cn cs ca L ccd cl outer gd s Q E name qual params pre rest rr wr wore fore fbody wtest ftgt fiter wpos fpos scope dV kV doc pm cdv ct oc an od osl hb hpre hrest k preB st wd s0 n oN ov tw rows ovs B F X T N hm1 hm2 hm3 dN dT hoD hov hV hrows hwd V I hn O CH CH2 ok hsys hE h
  have hb0 := hb
  have X0 := X
  revert X
  k_fill
  intro X
  refine' use_look hb ?hlk ?_
  case hlk => k_is
  intro hb2
  injection hb2 with q1 q2 q3 q4
  injection q3 with q3
  injection q3 with r1 r2 r3 r4 r5 r6 r7 r8 r9 r10 r11 r12 r13 r14 r15
  injection r4 with r4
  have hr : rest = (pre ++ rest).drop 9 := by rw [← hpre]; simp
  rw [← r4] at hr
  dsimp only [List.drop] at hr
  clear r4
  rw [hrest] at hr
  injection hr with hr1 hr2
  injection hr1 with hr1 hr3 hr4 hr5
  injection hr3 with hr3 hr6
  injection hr3 with hr7 hr8 hr9 hr10 hr11
  subst hr7 hr8 hr9 hr10 r2 r5 r13
  have fF := F
  rw [canonW hm1 hm2 hm3] at fF
  clear F
  revert hpre B T N hm1 hm2 hm3 dN dT hoD hov hV hrows hwd V I hn O CH CH2 ok hsys h X0 X q1 q2 q4 r1 r3 r6 r7 r8 r9 r10 r11 r12 r14 r15 hr2 hr1 hr4 hr5 hr6 hr11 hrest hb hE hb0 fF
  revert w p loose mean mg mb A₀ base g' m cn cs ca L ccd cl outer gd s Q E name params pre rest rr wr wore wtest wpos fpos dV kV doc pm ct oc an od osl k preB st wd s0 n oN ov tw rows ovs
  exact no_implicit_lambda% hole.get
noncomputable section
noncomputable def Pcut : (World) → (Program) → (List Str) → (ExcName → Option Value) → (Str → Option Value) → (Str → Option Value) → (Around) → (Heap) → (Heap) → (Str → Option Value) → (Str) → (Scope) → (Addr) → (Addr) → (Value) → (List (Str × Addr)) → (List Env) → (Option (List Code)) → (Shared) → (Flow → Shared → Prop) → (Value → Shared → Prop) → (Str) → (Arguments) → (List Stmt) → (List Stmt) → (List Stmt) → (List Stmt) → (List Stmt) → (Expr) → (Pos) → (Pos) → (Value) → (Value) → (Value) → (Value) → (Value) → (Value) → (Option Addr) → (Option Addr) → (Array (Option Value)) → (FC) → (List BE) → (FS) → (Wd) → (Bk) → (Nat) → (Obj) → (Option Value) → (Tok) → (List Row) → (List (Str × Value)) → Prop := (@id (∀ {Rcut : (World) → (Program) → (List Str) → (ExcName → Option Value) → (Str → Option Value) → (Str → Option Value) → (Around) → (Heap) → (Heap) → (Str → Option Value) → (Str) → (Scope) → (Addr) → (Addr) → (Value) → (List (Str × Addr)) → (List Env) → (Option (List Code)) → (Shared) → (Flow → Shared → Prop) → (Value → Shared → Prop) → (Str) → (Arguments) → (List Stmt) → (List Stmt) → (List Stmt) → (List Stmt) → (List Stmt) → (Expr) → (Pos) → (Pos) → (Value) → (Value) → (Value) → (Value) → (Value) → (Value) → (Option Addr) → (Option Addr) → (Array (Option Value)) → (FC) → (List BE) → (FS) → (Wd) → (Bk) → (Nat) → (Obj) → (Option Value) → (Tok) → (List Row) → (List (Str × Value)) → Prop}, cut.1 = (∀ w p loose mean mg mb A₀ base g' m cn cs ca L ccd cl outer gd s Q E name params pre rest rr wr wore wtest wpos fpos dV kV doc pm ct oc an od osl k preB st wd s0 n oN ov tw rows ovs, Rcut w p loose mean mg mb A₀ base g' m cn cs ca L ccd cl outer gd s Q E name params pre rest rr wr wore wtest wpos fpos dV kV doc pm ct oc an od osl k preB st wd s0 n oN ov tw rows ovs) → _) fun {Rcut} _ => Rcut) rfl
noncomputable def Tcut : Type := (World × Program × (List Str) × (ExcName → Option Value) × (Str → Option Value) × (Str → Option Value) × Around × Heap) × (Heap × (Str → Option Value) × Str × Scope × Addr × Addr × Value × (List (Str × Addr))) × ((List Env) × (Option (List Code)) × Shared × (Flow → Shared → Prop) × (Value → Shared → Prop) × Str × Arguments × (List Stmt)) × ((List Stmt) × (List Stmt) × (List Stmt) × (List Stmt) × Expr × Pos × Pos × Value) × (Value × Value × Value × Value × Value × (Option Addr) × (Option Addr) × (Array (Option Value))) × (FC × (List BE) × FS × Wd × Bk × Nat × Obj × (Option Value)) × (Tok × (List Row) × (List (Str × Value)))
noncomputable def Qcut (x : Tcut) : Prop := Pcut x.1.1 x.1.2.1 x.1.2.2.1 x.1.2.2.2.1 x.1.2.2.2.2.1 x.1.2.2.2.2.2.1 x.1.2.2.2.2.2.2.1 x.1.2.2.2.2.2.2.2 x.2.1.1 x.2.1.2.1 x.2.1.2.2.1 x.2.1.2.2.2.1 x.2.1.2.2.2.2.1 x.2.1.2.2.2.2.2.1 x.2.1.2.2.2.2.2.2.1 x.2.1.2.2.2.2.2.2.2 x.2.2.1.1 x.2.2.1.2.1 x.2.2.1.2.2.1 x.2.2.1.2.2.2.1 x.2.2.1.2.2.2.2.1 x.2.2.1.2.2.2.2.2.1 x.2.2.1.2.2.2.2.2.2.1 x.2.2.1.2.2.2.2.2.2.2 x.2.2.2.1.1 x.2.2.2.1.2.1 x.2.2.2.1.2.2.1 x.2.2.2.1.2.2.2.1 x.2.2.2.1.2.2.2.2.1 x.2.2.2.1.2.2.2.2.2.1 x.2.2.2.1.2.2.2.2.2.2.1 x.2.2.2.1.2.2.2.2.2.2.2 x.2.2.2.2.1.1 x.2.2.2.2.1.2.1 x.2.2.2.2.1.2.2.1 x.2.2.2.2.1.2.2.2.1 x.2.2.2.2.1.2.2.2.2.1 x.2.2.2.2.1.2.2.2.2.2.1 x.2.2.2.2.1.2.2.2.2.2.2.1 x.2.2.2.2.1.2.2.2.2.2.2.2 x.2.2.2.2.2.1.1 x.2.2.2.2.2.1.2.1 x.2.2.2.2.2.1.2.2.1 x.2.2.2.2.2.1.2.2.2.1 x.2.2.2.2.2.1.2.2.2.2.1 x.2.2.2.2.2.1.2.2.2.2.2.1 x.2.2.2.2.2.1.2.2.2.2.2.2.1 x.2.2.2.2.2.1.2.2.2.2.2.2.2 x.2.2.2.2.2.2.1 x.2.2.2.2.2.2.2.1 x.2.2.2.2.2.2.2.2
theorem ex_cut : ∃ x : Tcut, Qcut x → ∀ y, Qcut y := by
  haveI : Nonempty Bk := by refine ⟨?_⟩; repeat' (first | exact default | constructor)
  haveI : Nonempty FC := by refine ⟨?_⟩; repeat' (first | exact default | constructor)
  haveI : Nonempty FS := by refine ⟨?_⟩; repeat' (first | exact default | constructor)
  haveI := neW; haveI := neA; haveI := neS
  haveI : Nonempty Tcut := by unfold Tcut; set_option synthInstance.maxSize 2000 in infer_instance
  exact henk1 Qcut
noncomputable def Ccut : Tcut := Classical.choose ex_cut
@[irreducible] noncomputable def w : World := Ccut.1.1
@[irreducible] noncomputable def p : Program := Ccut.1.2.1
@[irreducible] noncomputable def loose : List Str := Ccut.1.2.2.1
@[irreducible] noncomputable def mean : ExcName → Option Value := Ccut.1.2.2.2.1
@[irreducible] noncomputable def mg : Str → Option Value := Ccut.1.2.2.2.2.1
@[irreducible] noncomputable def mb : Str → Option Value := Ccut.1.2.2.2.2.2.1
@[irreducible] noncomputable def A₀ : Around := Ccut.1.2.2.2.2.2.2.1
@[irreducible] noncomputable def base : Heap := Ccut.1.2.2.2.2.2.2.2
@[irreducible] noncomputable def g' : Heap := Ccut.2.1.1
@[irreducible] noncomputable def m : Str → Option Value := Ccut.2.1.2.1
@[irreducible] noncomputable def cn : Str := Ccut.2.1.2.2.1
@[irreducible] noncomputable def cs : Scope := Ccut.2.1.2.2.2.1
@[irreducible] noncomputable def ca : Addr := Ccut.2.1.2.2.2.2.1
@[irreducible] noncomputable def L : Addr := Ccut.2.1.2.2.2.2.2.1
@[irreducible] noncomputable def ccd : Value := Ccut.2.1.2.2.2.2.2.2.1
@[irreducible] noncomputable def cl : List (Str × Addr) := Ccut.2.1.2.2.2.2.2.2.2
@[irreducible] noncomputable def outer : List Env := Ccut.2.2.1.1
@[irreducible] noncomputable def gd : Option (List Code) := Ccut.2.2.1.2.1
@[irreducible] noncomputable def s : Shared := Ccut.2.2.1.2.2.1
@[irreducible] noncomputable def Q : Flow → Shared → Prop := Ccut.2.2.1.2.2.2.1
@[irreducible] noncomputable def E : Value → Shared → Prop := Ccut.2.2.1.2.2.2.2.1
@[irreducible] noncomputable def name : Str := Ccut.2.2.1.2.2.2.2.2.1
@[irreducible] noncomputable def params : Arguments := Ccut.2.2.1.2.2.2.2.2.2.1
@[irreducible] noncomputable def pre : List Stmt := Ccut.2.2.1.2.2.2.2.2.2.2
@[irreducible] noncomputable def rest : List Stmt := Ccut.2.2.2.1.1
@[irreducible] noncomputable def rr : List Stmt := Ccut.2.2.2.1.2.1
@[irreducible] noncomputable def wr : List Stmt := Ccut.2.2.2.1.2.2.1
@[irreducible] noncomputable def wore : List Stmt := Ccut.2.2.2.1.2.2.2.1
@[irreducible] noncomputable def wtest : Expr := Ccut.2.2.2.1.2.2.2.2.1
@[irreducible] noncomputable def wpos : Pos := Ccut.2.2.2.1.2.2.2.2.2.1
@[irreducible] noncomputable def fpos : Pos := Ccut.2.2.2.1.2.2.2.2.2.2.1
@[irreducible] noncomputable def dV : Value := Ccut.2.2.2.1.2.2.2.2.2.2.2
@[irreducible] noncomputable def kV : Value := Ccut.2.2.2.2.1.1
@[irreducible] noncomputable def doc : Value := Ccut.2.2.2.2.1.2.1
@[irreducible] noncomputable def pm : Value := Ccut.2.2.2.2.1.2.2.1
@[irreducible] noncomputable def ct : Value := Ccut.2.2.2.2.1.2.2.2.1
@[irreducible] noncomputable def oc : Value := Ccut.2.2.2.2.1.2.2.2.2.1
@[irreducible] noncomputable def an : Option Addr := Ccut.2.2.2.2.1.2.2.2.2.2.1
@[irreducible] noncomputable def od : Option Addr := Ccut.2.2.2.2.1.2.2.2.2.2.2.1
@[irreducible] noncomputable def osl : Array (Option Value) := Ccut.2.2.2.2.1.2.2.2.2.2.2.2
@[irreducible] noncomputable def k : FC := Ccut.2.2.2.2.2.1.1
@[irreducible] noncomputable def preB : List BE := Ccut.2.2.2.2.2.1.2.1
@[irreducible] noncomputable def st : FS := Ccut.2.2.2.2.2.1.2.2.1
@[irreducible] noncomputable def wd : Wd := Ccut.2.2.2.2.2.1.2.2.2.1
@[irreducible] noncomputable def s0 : Bk := Ccut.2.2.2.2.2.1.2.2.2.2.1
@[irreducible] noncomputable def n : Nat := Ccut.2.2.2.2.2.1.2.2.2.2.2.1
@[irreducible] noncomputable def oN : Obj := Ccut.2.2.2.2.2.1.2.2.2.2.2.2.1
@[irreducible] noncomputable def ov : Option Value := Ccut.2.2.2.2.2.1.2.2.2.2.2.2.2
@[irreducible] noncomputable def tw : Tok := Ccut.2.2.2.2.2.2.1
@[irreducible] noncomputable def rows : List Row := Ccut.2.2.2.2.2.2.2.1
@[irreducible] noncomputable def ovs : List (Str × Value) := Ccut.2.2.2.2.2.2.2.2
end
set_option maxHeartbeats 1000000 in
theorem at_cut : Pcut w p loose mean mg mb A₀ base g' m cn cs ca L ccd cl outer gd s Q E name params pre rest rr wr wore wtest wpos fpos dV kV doc pm ct oc an od osl k preB st wd s0 n oN ov tw rows ovs := by
  intro hpre B T N hm1 hm2 hm3 dN dT hoD hov hV hrows hwd V I hn O CH CH2 ok hsys h X0 X q1 q2 q4 r1 r3 r6 r7 r8 r9 r10 r11 r12 r14 r15 hr2 hr1 hr4 hr5 hr6 hr11 hrest hb hE hb0 fF
  k_steps
  unfold Hold
  (rename Fr _ _ _ _ => gF); (rename News _ _ _ _ => gN); (rename Below _ _ _ _ => fB); (rename Top _ _ _ _ _ _ => fT)
  rw [← canonW hm1 hm2 hm3] at gF
  k_dflt (refine' iter_strC (fun st : FS => k.led preB st) (fun _ => []) [Str.ofString "goes", Str.ofString "stays", Str.ofString "left"] (fun i st => WInv w k.dm ((wd.take i).foldl (one (relR rows) wd) s0) (FS.ws preB wd k.lw st)) st (by rfl) ?kd ?kx ?kc gF gN ?hc dN ?hl ?hlc ?hk V ?turn ?done hE)
  case kd => rfl
  case kx => rfl
  case kc => rfl
  case hc => exact .head _
  case hl => exact fun p hp => .tail _ hp
  case hlc => exact fun i a hP => FC.off_cell ok fun p hp => hP.hlt p (sub_cur p hp)
  case hk => exact List.forall_mem_nil _
  case done =>
    intro a oc' ov' u h' tk' hP hoc' F' N'
    have e : wd.take (wdS wd).cps.size = wd := List.take_of_length_le (by simp)
    rw [e] at hP
    refine h a oc' ov' h' tk' _ F' (fun z z1 z2 z3 => ?_) N' hoc' hP
    show (if _ then _ else _) = _
    rw [if_neg]
    simp [z1, z2, z3]
  case turn =>
    intro i a ch t oc' u h' tk' I' oI E' hch hP hI hcI hoc' F' N' hE'
    obtain ⟨j, hj, rfl⟩ := wd_sign hch
    have hiw : i < wd.length := (List.getElem?_eq_some_iff.mp hj).1
    have hj5 : j < 5 := by
      have := hwd.subset (List.mem_of_getElem? hj)
      simp at this
      omega
    have hw5 : wd.length ≤ 5 := hwd.length_le
    obtain ⟨r, hrj, hrm, hrn⟩ := row_at hrows hj5
    have hnd : (rows.map (·.nm)).Nodup := by rw [hrows]; decide
    obtain ⟨ttk, htk⟩ : ∃ ttk, valueAt ovs ⟨#[97 + j]⟩ = some (.str ⟨(takenOf rows r).cps.toList.toArray⟩ ttk) := by
      have hm : (⟨#[97 + j]⟩ : Str) ∈ ovs.map Prod.fst := by rw [hov]; exact List.mem_map.mpr ⟨r, hrm, hrn⟩
      obtain ⟨q, hq, e⟩ := List.mem_map.mp hm
      obtain ⟨r', hr', e1, t', e2⟩ := hV q hq
      have er : r' = r := rows_inj hnd hr' hrm (by rw [e1, e, hrn])
      subst er
      refine ⟨t', valueAt_mem (by rw [hov]; exact hnd) ?_⟩
      rw [Array.toArray_toList, ← e2, ← e]
      exact hq
    have Ij : PInv (n + i) ((wd.take i).foldl (one (relR rows) wd) s0) := by
      have := fold_inv (rel := relR rows) hwd (l := wd.take i) I
      rwa [List.length_take, Nat.min_eq_left (Nat.le_of_lt hiw)] at this
    obtain ⟨b1, b2, b3, b4⟩ := FC.off_back ok (oI := oI) hP hI
    have hbl : (preB ++ ⟨wd, k.lw, a.ls, a.vs, a.cap⟩ :: a.post).length ≤ n + i := by
      have e := congrArg List.length hP.hb
      simp only [FS.ws, bookP, List.length_map] at e
      rw [e]; exact Ij.b1
    have hvl : a.vs.length ≤ n + i := by
      have h1 := hP.hok ⟨wd, k.lw, a.ls, a.vs, a.cap⟩ (List.mem_append_right _ (.head _))
      have h2 : (wd, a.ls) ∈ ((wd.take i).foldl (one (relR rows) wd) s0).book := by
        rw [← hP.hb]
        exact List.mem_map.mpr ⟨⟨wd, k.lw, a.ls, a.vs, a.cap⟩, List.mem_append_right _ (.head _), rfl⟩
      have h3 := h1.length
      rw [List.length_map] at h3
      have h4 := Ij.b3 _ h2
      dsimp only at h3 h4
      omega
    have hql : a.pbs.length ≤ n + i := by
      have h3 := hP.hq.length
      rw [List.length_map] at h3
      have h4 := Ij.b2
      dsimp only [FS.ws] at h3
      omega
    have hnk : ((bookP (preB ++ ⟨wd, k.lw, a.ls, a.vs, a.cap⟩ :: a.post)).map (·.1)).Nodup := by
      have := Ij.nd
      rwa [← hP.hb] at this
    k_dflt (refine' turn_spec (ode := k.ode) (c3 := k.c3) (nl := k.nl) (npb := a.npb) (cap := a.cap) (ln := k.ln) (tln := k.tln) (vs := a.vs) (pbs := a.pbs) (tw := tw) (tlx := a.tl) (tail := k.back preB a I' oI) hb0 hpre hrest fB F' X0 fT ?N ?m1 ?m2 ?m3 hoc' dT hoD htk hP.hom (book_value hnk (e := ⟨wd, k.lw, a.ls, a.vs, a.cap⟩) (List.mem_append_right _ (.head _))) ?kz ?vz ?pz ?wl ?wr ?wc hsys ?O CH CH2 ?htl hP.htb ok.l3 ok.a ok.b ok.d1 ok.d2 ok.d3 b1 b2 b3 ?h)
    case N =>
      refine news_re N' (fun p hp => ?_)
      (try simp only [FC.led, FC.front, FC.back, lexAll, lexLed, List.cons_append, List.nil_append] at hp ⊢)
      revert p; k_extra "x:sub"
    case m1 => exact (kstB_at (by decide)).trans hm1
    case m2 => exact (kstB_at (by decide)).trans hm2
    case m3 => exact (kstB_at (by decide)).trans hm3
    case kz => (dsimp only [FS.ws]; rw [List.length_map]; omega)
    case vz => omega
    case pz => omega
    case wl => (rw [List.length_map]; dsimp only; omega)
    case wr =>
      refine (List.pairwise_map.mpr ?_)
      have : [0, 1, 2, 3, 4].Pairwise (fun a b : Nat => 97 + a ≤ 97 + b) := by decide
      exact this.sublist hwd
    case wc =>
      intro c hc
      obtain ⟨x, hx, rfl⟩ := List.mem_map.mp hc
      have := hwd.subset hx
      simp at this
      omega
    case O => exact O.app b4
    case htl => (intro q hq; exact List.mem_append_right _ (List.mem_append_left _ hq))
    case h =>
      intro h2 tk2 m2 c' occ cvs t2 gl sl tv F2 hm2' hcd hcv hcc hsl hgl hif
      rw [filter_lft hrows hrj hwd] at hsl
      subst hsl hgl
      dsimp only at hcc hif
      have hfold : (wd.take (i + 1)).foldl (one (relR rows) wd) s0 = one (relR rows) wd ((wd.take i).foldl (one (relR rows) wd) s0) j := by
        rw [List.take_add_one, hj, List.foldl_append]
        rfl
      have hcc' : (c', occ) ∈ a.tl ∨ (@LT.lt Nat _ k.dm c' ∧ ∀ p ∈ a.tl ++ bookLed (preB ++ ⟨wd, k.lw, a.ls, a.vs, a.cap⟩ :: a.post), @LT.lt Nat _ p.1 c') := by
        rcases hcc with hcc | ⟨c1, c2⟩
        · exact .inl hcc
        · refine .inr ⟨Nat.lt_trans ok.d3 c1, fun p hp => ?_⟩
          rw [bookLed_app] at hp
          simp only [bookLed, List.map_cons, List.mem_append, List.mem_cons] at hp
          rcases hp with hp | hp | rfl | hp
          · exact c2 p (by simp [FC.back, hp])
          · exact c2 p (by rw [FC.back, bookLed_app]; simp only [bookLed, List.mem_append]; simp [hp])
          · exact c1
          · exact c2 p (by rw [FC.back, bookLed_app]; simp only [bookLed, List.mem_append]; simp [hp])
      have hII : ∀ p ∈ k.fix ++ (k.tail ++ (a.tl ++ bookLed (preB ++ a.post))), @Ne Nat p.1 I' := fun p hp => hI p (List.mem_append_right _ hp)
      have hcI' : @Ne Nat c' I' := by
        rcases hcc with hcc | ⟨c1, c2⟩
        · exact hII (c', occ) (by simp [hcc])
        · exact Nat.ne_of_gt (c2 (I', oI) (by simp [FC.back]))
      have hfr : ∀ b : FS, ∀ p ∈ k.front b, @Ne Nat p.1 I' := fun b => FC.front_off (a := a) fun p hp => hI p (List.mem_append_left _ hp)
      have hbk : ∀ {tl' : List (Addr × Obj)}, (∀ p ∈ tl', p ∈ a.tl ∨ p = (c', occ)) → ∀ p ∈ k.fix ++ (k.tail ++ (tl' ++ bookLed (preB ++ a.post))), @Ne Nat p.1 I' := fun {tl'} t1 p hp => by
        simp only [List.mem_append] at hp
        rcases hp with hp | hp | hp | hp
        · exact hII p (by simp only [List.mem_append]; simp [hp])
        · exact hII p (by simp only [List.mem_append]; simp [hp])
        · rcases t1 p hp with hp | rfl
          · exact hII p (by simp only [List.mem_append]; simp [hp])
          · exact hcI'
        · exact hII p (by simp only [List.mem_append]; exact .inr (.inr (.inr hp)))
      have hzz : ∀ z, (∀ p ∈ ([] : List (Str × Value)), z ≠ p.1) → [Str.ofString "goes", Str.ofString "stays", Str.ofString "left"].contains z = false → m2 z = m z := fun z _ hz => by
        have hz' := hz
        simp only [List.contains_eq_mem, List.mem_cons, List.not_mem_nil, or_false, decide_eq_false_iff_not, not_or] at hz'
        rw [hm2' z hz'.1 hz'.2.1 hz'.2.2]
        exact kstB_at hz
      have hmid : (⟨wd, k.lw, a.ls, a.vs, a.cap⟩ : BE) ∈ (FS.ws preB wd k.lw a).book := List.mem_append_right _ (.head _)
      have hcond : ((wdL (lft (relR rows) wd j)) ≠ [] ∧ valueAt (bookKvs (FS.ws preB wd k.lw a).book) ⟨(wdL (lft (relR rows) wd j)).toArray⟩ = none) ↔ (lft (relR rows) wd j ≠ [] ∧ lft (relR rows) wd j ∉ ((wd.take i).foldl (one (relR rows) wd) s0).book.map (·.1)) := by
        rw [show valueAt (bookKvs (FS.ws preB wd k.lw a).book) ⟨(wdL (lft (relR rows) wd j)).toArray⟩ = none ↔ _ from book_none, hP.hb]
        refine and_congr (not_congr ?_) Iff.rfl
        simp
      show CEnd _ _ _ _ _ _ _ _ _ _ _ _
      by_cases hn2 : lft (relR rows) wd j ≠ [] ∧ lft (relR rows) wd j ∉ ((wd.take i).foldl (one (relR rows) wd) s0).book.map (·.1)
      · rw [if_pos (hcond.mpr hn2)] at hif
        obtain ⟨ll, om', npb', cp, N2, hom', hl1, hl2, hl3⟩ := hif
        obtain ⟨tl', t1, V'⟩ := after_new (tv := tv) (npb' := npb') (cp := cp) hP Ij hcd hcv hcc' hn2 hom' hl3 (fun p hp => by
          rw [bookLed_app] at hp
          simp only [bookLed, List.map_cons, List.mem_append, List.mem_cons] at hp
          rcases hp with hp | hp | rfl | hp
          · exact hl1 p (by simp [FC.back, hp])
          · exact hl1 p (by rw [FC.back, bookLed_app]; simp only [bookLed, List.mem_append]; simp [hp])
          · exact hl2
          · exact hl1 p (by rw [FC.back, bookLed_app]; simp only [bookLed, List.mem_append]; simp [hp]))
        rw [← hfold] at V'
        refine CEnd.intro _ ?_ hoc' hcI (List.forall_mem_nil _) F2 N2 ?_ ?_ ?_ ?_ V'
        · simp
        · intro p hp
          simp only [FC.led, FC.front, lexLed, List.cons_append, List.nil_append, List.mem_cons, List.mem_append, List.not_mem_nil, or_false] at hp
          simp only [FC.back, lexAll, lexLed, List.cons_append, List.nil_append, List.mem_cons, List.mem_append, List.not_mem_nil, or_false]
          have e1 : ∀ p ∈ bookLed (preB ++ (a.post ++ [⟨lft (relR rows) wd j, ll, [], [], cp⟩])), p ∈ bookLed (preB ++ a.post) ∨ p = (ll, W.listOf #[] cp) := fun p hp => by
            rw [← List.append_assoc, bookLed_app] at hp
            rcases List.mem_append.mp hp with hp | hp
            · exact .inl hp
            · simp only [bookLed, List.map_cons, List.map_nil, List.mem_singleton] at hp
              exact .inr hp
          grind
        · intro p hp
          rw [List.mem_singleton.mp hp]
          simp [FC.back, lexAll]
        · intro p hp
          have e0 : @Ne Nat ll I' := Nat.ne_of_gt (hl1 (I', oI) (by simp [FC.back]))
          rcases List.mem_append.mp hp with hp | hp
          · exact hfr _ p hp
          · dsimp only at hp
            rw [← List.append_assoc preB, bookLed_app, ← List.append_assoc tl', ← List.append_assoc k.tail, ← List.append_assoc k.fix] at hp
            rcases List.mem_append.mp hp with hp | hp
            · exact hbk t1 p hp
            · simp only [bookLed, List.map_cons, List.map_nil, List.mem_singleton] at hp
              rw [hp]; exact e0
        · exact hzz
      · rw [if_neg (fun q => hn2 (hcond.mp q))] at hif
        obtain ⟨tl', t1, V'⟩ := after_old (tv := tv) hP Ij hcd hcv hcc' hn2
        rw [← hfold] at V'
        refine CEnd.intro _ ?_ hoc' hcI (List.forall_mem_nil _) F2 hif ?_ ?_ ?_ ?_ V'
        · simp
        · intro p hp
          simp only [FC.led, FC.front, lexLed, List.cons_append, List.nil_append, List.mem_cons, List.mem_append, List.not_mem_nil, or_false] at hp
          simp only [FC.back, lexAll, lexLed, List.cons_append, List.nil_append, List.mem_cons, List.mem_append, List.not_mem_nil, or_false]
          grind
        · intro p hp
          rw [List.mem_singleton.mp hp]
          simp [FC.back, lexAll]
        · intro p hp
          rcases List.mem_append.mp hp with hp | hp
          · exact hfr _ p hp
          · exact hbk t1 p hp
        · exact hzz
theorem all_cut : ∀ w p loose mean mg mb A₀ base g' m cn cs ca L ccd cl outer gd s Q E name params pre rest rr wr wore wtest wpos fpos dV kV doc pm ct oc an od osl k preB st wd s0 n oN ov tw rows ovs, Pcut w p loose mean mg mb A₀ base g' m cn cs ca L ccd cl outer gd s Q E name params pre rest rr wr wore wtest wpos fpos dV kV doc pm ct oc an od osl k preB st wd s0 n oN ov tw rows ovs := by
  have h : Pcut w p loose mean mg mb A₀ base g' m cn cs ca L ccd cl outer gd s Q E name params pre rest rr wr wore wtest wpos fpos dV kV doc pm ct oc an od osl k preB st wd s0 n oN ov tw rows ovs := at_cut
  delta w p loose mean mg mb A₀ base g' m cn cs ca L ccd cl outer gd s Q E name params pre rest rr wr wore wtest wpos fpos dV kV doc pm ct oc an od osl k preB st wd s0 n oN ov tw rows ovs at h
  exact fun w p loose mean mg mb A₀ base g' m cn cs ca L ccd cl outer gd s Q E name params pre rest rr wr wore wtest wpos fpos dV kV doc pm ct oc an od osl k preB st wd s0 n oN ov tw rows ovs => Classical.choose_spec ex_cut h ((w, p, loose, mean, mg, mb, A₀, base), (g', m, cn, cs, ca, L, ccd, cl), (outer, gd, s, Q, E, name, params, pre), (rest, rr, wr, wore, wtest, wpos, fpos, dV), (kV, doc, pm, ct, oc, an, od, osl), (k, preB, st, wd, s0, n, oN, ov), (tw, rows, ovs))
end K_for_spec
theorem for_spec : type_of% (@Subtype.property _ _ K_for_spec.cut (no_implicit_lambda% K_for_spec.all_cut)) := no_implicit_lambda% (@Subtype.property _ _ K_for_spec.cut (no_implicit_lambda% K_for_spec.all_cut))
end Mine
end
section
theorem Mine.off_W32 : True := by (w_top off; trivial)
open PySem PySem.W PyProof.Rows PySem.Spec PySem.Calls
set_option maxRecDepth 100000
namespace Mine
open Plain (Wd Bk lft addTo one turn run)
def held_W32_1 : List String := "exec For Name Name cons nil;truthy str;WhlRest".splitOn ";"
local macro_rules | `(tactic| walk_at $s:str) => if held_W32_1.contains s.getString then `(tactic| (k_here; refine hold ?_)) else Lean.Macro.throwUnsupported
local macro_rules | `(tactic| walk_at "WhlPost") => `(tactic| (dsimp only [WhlPost]))
local macro_rules | `(tactic| walk_at "WhlIf") => `(tactic| (first | refine WhlIf.yes rfl ?_ | refine WhlIf.no rfl ?_))
local macro_rules | `(tactic| walk_at "call ref") => `(tactic| (k_here; (try dsimp only [List.cons_append, List.nil_append, List.append_nil]); refine hold ?_))

theorem run_nil {rel : Nat → Nat → Bool} : ∀ {n : Nat} {b : Bk}, b.queue = [] → Plain.run rel n b = b := by
  intro n
  induction n with
  | zero => intro b _; rfl
  | succ n ih =>
    intro b h
    have e : turn rel b = b := by unfold turn; rw [h]
    rw [Plain.run, e]
    exact ih h
/-- the ledger at the head of the while -/
noncomputable abbrev FC.ledW (k : FC) (st : WS) : List (Addr × Obj) := (145, tabObj st.tb) :: (k.dm, st.om) :: (k.D, k.oD) :: (k.ld, k.ode) :: (k.L + 1 + 1 + 1, k.oT) :: (k.L + 1, k.c3) :: (k.lf, W.listOf #[] k.nl) :: (lexLed k.zz k.ln k.tln st.pbs st.npb ++ (k.fix ++ (k.tail ++ (st.tl ++ bookLed st.book))))
noncomputable abbrev wordOf (b : Bk) : Str := wdS (b.queue.head?.getD [])
noncomputable abbrev popped (b : Bk) : Bk := { b with queue := b.queue.tail }
theorem FCok.lw {k : FC} {a b : Addr} (o : FCok { k with lw := a }) (h : @LT.lt Nat _ k.dm b) : FCok { k with lw := b } := ⟨o.l3, o.a, o.b, o.d1, o.d2, h, o.e1, o.e2, o.e3⟩
set_option maxHeartbeats 1000000 in
theorem stop_spec {w : World} {p : Program} {loose : List Str} {mean : ExcName → Option Value} {mg mb : Str → Option Value} {A₀ : Around} {base g' : Heap} {cn : Str} {cs : Scope} {ca L : Addr} {ccd : Value} {cl : List (Str × Addr)} {outer : List Env} {gd : Option (List Code)} {Q : Flow → Shared → Prop} {E : Value → Shared → Prop}
    {name qual : Str} {params : Arguments} {pre rest rr wr wore fore fbody : List Stmt} {wtest ftgt fiter : PySem.Expr} {wpos fpos : Pos} {scope : Scope} {dV kV doc pm cdv ct oc : Value} {an od : Option Addr} {osl : Array (Option Value)}
    (hb : (Mine.hd.heap_39 w.params).lookup 148 = some ⟨oc, od, .func (fnOf name qual params (pre ++ rest) scope dV kV doc pm an cdv ct), osl⟩) (hpre : pre.length = 9)
    (hrest : rest = .While wtest (.For ftgt fiter fbody fore fpos :: wr) wore wpos :: rr)
    {k : FC} {rows : List Row} {ovs : List (Str × Value)}
    (B : Below A₀ base (envX cn cs L ca ccd cl :: outer) g') (X : (Mine.hd.heap_39 w.params).In g') (T : Top p loose mean mg mb g')
    (dT : k.oT.data = .cell (some (.ref k.D)))
    (hoD : k.oD.IsDictOf (PySem.strKind Challenge.rw_pg0196_01.row.prog w) ovs) (hov : ovs.map Prod.fst = rows.map (·.nm)) (hV : ∀ p ∈ ovs, ∃ r ∈ rows, r.nm = p.1 ∧ ∃ t, p.2 = .str (takenOf rows r) t)
    (hrows : rows.map (·.nm) = [⟨#[97]⟩, ⟨#[98]⟩, ⟨#[99]⟩, ⟨#[100]⟩, ⟨#[101]⟩])
    (O : LexOn w k.zz k.lf k.fix k.tail base) (CH : CodeHd base 142 138) (CH2 : CodeHd base 147 145) (ok : FCok { k with lw := k.dm + 1 }) (hsys : (k.dm == sysModules) = false)
    (hE : PassesOwn (model Challenge.rw_pg0196_01.row.prog w) ((At 30 gd (envX cn cs L ca ccd cl :: outer)).deeper (envOfC qual scope k.L 148 cdv)) (envOfC qual scope k.L 148 cdv) E)
    {b : Bk} {st : WS} {s : Shared} {m : Str → Option Value} {oN : Obj} {ov : Option Value} {tw : Tok}
    (F : Fr g' k.L s.heap m) (N : News g' k.L s.heap ((k.L + 1 + 1, oN) :: k.ledW st))
    (hm1 : m (Str.ofString "lexer") = some (.ref k.zz.lx)) (hm2 : m (Str.ofString "word") = some (.str (wordOf b) tw)) (hm3 : m (Str.ofString "moves") = some (.ref k.dm)) (dN : oN.data = .cell ov) (V : WInv w k.dm (popped b) st)
    (hq : b.queue = []) (h : ∀ h' tk' m', Fr g' k.L h' m' → m' (Str.ofString "moves") = some (.ref k.dm) → News g' k.L h' ((145, tabObj st.tb) :: (k.fix ++ (k.tail ++ ((k.dm, st.om) :: bookLed st.book)))) → Q .next { s with heap := h', toks := tk' }) :
    WhlRest Challenge.rw_pg0196_01.row.prog w ((At 30 gd (envX cn cs L ca ccd cl :: outer)).deeper (envOfC qual scope k.L 148 cdv)) E (envOfC qual scope k.L 148 cdv) wtest (.For ftgt fiter fbody fore fpos :: wr) wore Q 0 s := by
  have hb0 := hb
  have X0 := X
  revert X
  k_fill
  intro X
  refine' use_look hb ?hlk ?_
  case hlk => k_is
  intro hb2
  injection hb2 with q1 q2 q3 q4
  injection q3 with q3
  injection q3 with r1 r2 r3 r4 r5 r6 r7 r8 r9 r10 r11 r12 r13 r14 r15
  injection r4 with r4
  have hr : rest = (pre ++ rest).drop 9 := by rw [← hpre]; simp
  rw [← r4] at hr
  dsimp only [List.drop] at hr
  clear r4
  rw [hrest] at hr
  injection hr with hr1 hr2
  injection hr1 with hr1 hr3 hr4 hr5
  injection hr3 with hr3 hr6
  subst hr1 hr4 hr6 r2 r5 r13
  have fF := F
  rw [canonW hm1 hm2 hm3] at fF
  clear F
  have N0 := N
  dsimp only [FC.ledW, lexLed, List.cons_append, List.nil_append] at N
  refine whl_turn (k := 0) hE ?_
  k_steps
  unfold Hold
  with_reducible (refine' truthy_strK (b := false) ?hl ?hb ?_)
  case hl => simp [hq, Str.length]
  case hb => simp [hq, Str.length]
  k_steps
  (rename Fr g' _ _ _ => gF); (rename News g' _ _ _ => gN)
  refine h _ _ _ gF (congrFun (canonW hm1 hm2 hm3) _ ▸ hm3) (news_re gN fun p hp => ?_)
  simp only [List.mem_cons, List.mem_append] at hp ⊢
  rcases hp with rfl | hp | hp | rfl | hp
  all_goals simp [*]

namespace K_step_spec
set_option maxHeartbeats 1000000 in
noncomputable def cut : (@Subtype Prop fun P => P → ∀ {w : World} {p : Program} {loose : List Str} {mean : ExcName → Option Value} {mg mb : Str → Option Value} {A₀ : Around} {base g' : Heap} {cn : Str} {cs : Scope} {ca L : Addr} {ccd : Value} {cl : List (Str × Addr)} {outer : List Env} {gd : Option (List Code)} {Q : Flow → Shared → Prop} {E : Value → Shared → Prop} {name qual : Str} {params : Arguments} {pre rest rr wr wore fore fbody : List Stmt} {wtest ftgt fiter : PySem.Expr} {wpos fpos : Pos} {scope : Scope} {dV kV doc pm cdv ct oc : Value} {an od : Option Addr} {osl : Array (Option Value)} (hb : (Mine.hd.heap_39 w.params).lookup 148 = some ⟨oc, od, .func (fnOf name qual params (pre ++ rest) scope dV kV doc pm an cdv ct), osl⟩) (hpre : pre.length = 9) (hrest : rest = .While wtest (.For ftgt fiter fbody fore fpos :: wr) wore wpos :: rr) {k : FC} {rows : List Row} {ovs : List (Str × Value)} (B : Below A₀ base (envX cn cs L ca ccd cl :: outer) g') (X : (Mine.hd.heap_39 w.params).In g') (T : Top p loose mean mg mb g') (dT : k.oT.data = .cell (some (.ref k.D))) (hoD : k.oD.IsDictOf (PySem.strKind Challenge.rw_pg0196_01.row.prog w) ovs) (hov : ovs.map Prod.fst = rows.map (·.nm)) (hV : ∀ p ∈ ovs, ∃ r ∈ rows, r.nm = p.1 ∧ ∃ t, p.2 = .str (takenOf rows r) t) (hrows : rows.map (·.nm) = [⟨#[97]⟩, ⟨#[98]⟩, ⟨#[99]⟩, ⟨#[100]⟩, ⟨#[101]⟩]) (O : LexOn w k.zz k.lf k.fix k.tail base) (CH : CodeHd base 142 138) (CH2 : CodeHd base 147 145) (ok : FCok { k with lw := k.dm + 1 }) (hsys : (k.dm == sysModules) = false) (hE : PassesOwn (model Challenge.rw_pg0196_01.row.prog w) ((At 30 gd (envX cn cs L ca ccd cl :: outer)).deeper (envOfC qual scope k.L 148 cdv)) (envOfC qual scope k.L 148 cdv) E) {b : Bk} {st : WS} {s : Shared} {m : Str → Option Value} {oN : Obj} {ov : Option Value} {tw : Tok} (F : Fr g' k.L s.heap m) (N : News g' k.L s.heap ((k.L + 1 + 1, oN) :: k.ledW st)) (hm1 : m (Str.ofString "lexer") = some (.ref k.zz.lx)) (hm2 : m (Str.ofString "word") = some (.str (wordOf b) tw)) (hm3 : m (Str.ofString "moves") = some (.ref k.dm)) (dN : oN.data = .cell ov) (V : WInv w k.dm (popped b) st) {u : Wd} {q : List Wd} {n : Nat} (hq : b.queue = u :: q) (I : PInv n b) (hn : n ≤ 890) (h : ∀ st' s' m' oN' ov' tw' nl' tln', (∃ h tk, s' = { s with heap := h, toks := tk }) → Fr g' k.L s'.heap m' → News g' k.L s'.heap ((k.L + 1 + 1, oN') :: FC.ledW { k with nl := nl', tln := tln' } st') →
      m' (Str.ofString "lexer") = some (.ref k.zz.lx) → m' (Str.ofString "word") = some (.str (wordOf (turn (relR rows) b)) tw') → m' (Str.ofString "moves") = some (.ref k.dm) → oN'.data = .cell ov' → WInv w k.dm (popped (turn (relR rows) b)) st' →
      WhlRest Challenge.rw_pg0196_01.row.prog w ((At 30 gd (envX cn cs L ca ccd cl :: outer)).deeper (envOfC qual scope k.L 148 cdv)) E (envOfC qual scope k.L 148 cdv) wtest (.For ftgt fiter fbody fore fpos :: wr) wore Q 0 s'), WhlRest Challenge.rw_pg0196_01.row.prog w ((At 30 gd (envX cn cs L ca ccd cl :: outer)).deeper (envOfC qual scope k.L 148 cdv)) E (envOfC qual scope k.L 148 cdv) wtest (.For ftgt fiter fbody fore fpos :: wr) wore Q 0 s) := by
  refine' mkCut fun hole => ?_
  rotate_left
  focus
  intro w p loose mean mg mb A₀ base g' cn cs ca L ccd cl outer gd Q E name qual params pre rest rr wr wore fore fbody wtest ftgt fiter wpos fpos scope dV kV doc pm cdv ct oc an od osl hb hpre hrest k rows ovs B X T dT hoD hov hV hrows O CH CH2 ok hsys hE b st s m oN ov tw F N hm1 hm2 hm3 dN V u q n hq I hn h
  have hb0 := hb
  have X0 := X
  revert X
  k_fill
  intro X
  refine' use_look hb ?hlk ?_
  case hlk => k_is
  intro hb2
  injection hb2 with q1 q2 q3 q4
  injection q3 with q3
  injection q3 with r1 r2 r3 r4 r5 r6 r7 r8 r9 r10 r11 r12 r13 r14 r15
  injection r4 with r4
  have hr : rest = (pre ++ rest).drop 9 := by rw [← hpre]; simp
  rw [← r4] at hr
  dsimp only [List.drop] at hr
  clear r4
  rw [hrest] at hr
  injection hr with hr1 hr2
  injection hr1 with hr1 hr3 hr4 hr5
  injection hr3 with hr3 hr6
  subst hr1 hr4 hr6 r2 r5 r13
  have fF := F
  rw [canonW hm1 hm2 hm3] at fF
  clear F
  have N0 := N
  dsimp only [FC.ledW, lexLed, List.cons_append, List.nil_append] at N
  revert hpre B T dT hoD hov hV hrows O CH CH2 ok hsys N hm1 hm2 hm3 dN V hq I hn X0 X q1 q2 q4 r1 r3 r6 r7 r8 r9 r10 r11 r12 r14 r15 hr2 hr5 hr3 hrest hb hE hb0 h fF N0
  revert st
  revert w p loose mean mg mb A₀ base g' cn cs ca L ccd cl outer gd Q E name params pre rest rr fore fbody ftgt fiter wpos fpos dV kV doc pm ct oc an od osl k rows ovs b s m oN ov tw u q n
  exact no_implicit_lambda% hole.get
noncomputable section
noncomputable def Pcut : (World) → (Program) → (List Str) → (ExcName → Option Value) → (Str → Option Value) → (Str → Option Value) → (Around) → (Heap) → (Heap) → (Str) → (Scope) → (Addr) → (Addr) → (Value) → (List (Str × Addr)) → (List Env) → (Option (List Code)) → (Flow → Shared → Prop) → (Value → Shared → Prop) → (Str) → (Arguments) → (List Stmt) → (List Stmt) → (List Stmt) → (List Stmt) → (List Stmt) → (Expr) → (Expr) → (Pos) → (Pos) → (Value) → (Value) → (Value) → (Value) → (Value) → (Value) → (Option Addr) → (Option Addr) → (Array (Option Value)) → (FC) → (List Row) → (List (Str × Value)) → (Bk) → (Shared) → (Str → Option Value) → (Obj) → (Option Value) → (Tok) → (Wd) → (List Wd) → (Nat) → Prop := (@id (∀ {Rcut : (World) → (Program) → (List Str) → (ExcName → Option Value) → (Str → Option Value) → (Str → Option Value) → (Around) → (Heap) → (Heap) → (Str) → (Scope) → (Addr) → (Addr) → (Value) → (List (Str × Addr)) → (List Env) → (Option (List Code)) → (Flow → Shared → Prop) → (Value → Shared → Prop) → (Str) → (Arguments) → (List Stmt) → (List Stmt) → (List Stmt) → (List Stmt) → (List Stmt) → (Expr) → (Expr) → (Pos) → (Pos) → (Value) → (Value) → (Value) → (Value) → (Value) → (Value) → (Option Addr) → (Option Addr) → (Array (Option Value)) → (FC) → (List Row) → (List (Str × Value)) → (Bk) → (Shared) → (Str → Option Value) → (Obj) → (Option Value) → (Tok) → (Wd) → (List Wd) → (Nat) → Prop}, cut.1 = (∀ w p loose mean mg mb A₀ base g' cn cs ca L ccd cl outer gd Q E name params pre rest rr fore fbody ftgt fiter wpos fpos dV kV doc pm ct oc an od osl k rows ovs b s m oN ov tw u q n, Rcut w p loose mean mg mb A₀ base g' cn cs ca L ccd cl outer gd Q E name params pre rest rr fore fbody ftgt fiter wpos fpos dV kV doc pm ct oc an od osl k rows ovs b s m oN ov tw u q n) → _) fun {Rcut} _ => Rcut) rfl
noncomputable def Tcut : Type := (World × Program × (List Str) × (ExcName → Option Value) × (Str → Option Value) × (Str → Option Value) × Around × Heap) × (Heap × Str × Scope × Addr × Addr × Value × (List (Str × Addr)) × (List Env)) × ((Option (List Code)) × (Flow → Shared → Prop) × (Value → Shared → Prop) × Str × Arguments × (List Stmt) × (List Stmt) × (List Stmt)) × ((List Stmt) × (List Stmt) × Expr × Expr × Pos × Pos × Value × Value) × (Value × Value × Value × Value × (Option Addr) × (Option Addr) × (Array (Option Value)) × FC) × ((List Row) × (List (Str × Value)) × Bk × Shared × (Str → Option Value) × Obj × (Option Value) × Tok) × (Wd × (List Wd) × Nat)
noncomputable def Qcut (x : Tcut) : Prop := Pcut x.1.1 x.1.2.1 x.1.2.2.1 x.1.2.2.2.1 x.1.2.2.2.2.1 x.1.2.2.2.2.2.1 x.1.2.2.2.2.2.2.1 x.1.2.2.2.2.2.2.2 x.2.1.1 x.2.1.2.1 x.2.1.2.2.1 x.2.1.2.2.2.1 x.2.1.2.2.2.2.1 x.2.1.2.2.2.2.2.1 x.2.1.2.2.2.2.2.2.1 x.2.1.2.2.2.2.2.2.2 x.2.2.1.1 x.2.2.1.2.1 x.2.2.1.2.2.1 x.2.2.1.2.2.2.1 x.2.2.1.2.2.2.2.1 x.2.2.1.2.2.2.2.2.1 x.2.2.1.2.2.2.2.2.2.1 x.2.2.1.2.2.2.2.2.2.2 x.2.2.2.1.1 x.2.2.2.1.2.1 x.2.2.2.1.2.2.1 x.2.2.2.1.2.2.2.1 x.2.2.2.1.2.2.2.2.1 x.2.2.2.1.2.2.2.2.2.1 x.2.2.2.1.2.2.2.2.2.2.1 x.2.2.2.1.2.2.2.2.2.2.2 x.2.2.2.2.1.1 x.2.2.2.2.1.2.1 x.2.2.2.2.1.2.2.1 x.2.2.2.2.1.2.2.2.1 x.2.2.2.2.1.2.2.2.2.1 x.2.2.2.2.1.2.2.2.2.2.1 x.2.2.2.2.1.2.2.2.2.2.2.1 x.2.2.2.2.1.2.2.2.2.2.2.2 x.2.2.2.2.2.1.1 x.2.2.2.2.2.1.2.1 x.2.2.2.2.2.1.2.2.1 x.2.2.2.2.2.1.2.2.2.1 x.2.2.2.2.2.1.2.2.2.2.1 x.2.2.2.2.2.1.2.2.2.2.2.1 x.2.2.2.2.2.1.2.2.2.2.2.2.1 x.2.2.2.2.2.1.2.2.2.2.2.2.2 x.2.2.2.2.2.2.1 x.2.2.2.2.2.2.2.1 x.2.2.2.2.2.2.2.2
theorem ex_cut : ∃ x : Tcut, Qcut x → ∀ y, Qcut y := by
  haveI : Nonempty Bk := by refine ⟨?_⟩; repeat' (first | exact default | constructor)
  haveI : Nonempty FC := by refine ⟨?_⟩; repeat' (first | exact default | constructor)
  haveI := neW; haveI := neA; haveI := neS
  haveI : Nonempty Tcut := by unfold Tcut; set_option synthInstance.maxSize 2000 in infer_instance
  exact henk1 Qcut
noncomputable def Ccut : Tcut := Classical.choose ex_cut
@[irreducible] noncomputable def w : World := Ccut.1.1
@[irreducible] noncomputable def p : Program := Ccut.1.2.1
@[irreducible] noncomputable def loose : List Str := Ccut.1.2.2.1
@[irreducible] noncomputable def mean : ExcName → Option Value := Ccut.1.2.2.2.1
@[irreducible] noncomputable def mg : Str → Option Value := Ccut.1.2.2.2.2.1
@[irreducible] noncomputable def mb : Str → Option Value := Ccut.1.2.2.2.2.2.1
@[irreducible] noncomputable def A₀ : Around := Ccut.1.2.2.2.2.2.2.1
@[irreducible] noncomputable def base : Heap := Ccut.1.2.2.2.2.2.2.2
@[irreducible] noncomputable def g' : Heap := Ccut.2.1.1
@[irreducible] noncomputable def cn : Str := Ccut.2.1.2.1
@[irreducible] noncomputable def cs : Scope := Ccut.2.1.2.2.1
@[irreducible] noncomputable def ca : Addr := Ccut.2.1.2.2.2.1
@[irreducible] noncomputable def L : Addr := Ccut.2.1.2.2.2.2.1
@[irreducible] noncomputable def ccd : Value := Ccut.2.1.2.2.2.2.2.1
@[irreducible] noncomputable def cl : List (Str × Addr) := Ccut.2.1.2.2.2.2.2.2.1
@[irreducible] noncomputable def outer : List Env := Ccut.2.1.2.2.2.2.2.2.2
@[irreducible] noncomputable def gd : Option (List Code) := Ccut.2.2.1.1
@[irreducible] noncomputable def Q : Flow → Shared → Prop := Ccut.2.2.1.2.1
@[irreducible] noncomputable def E : Value → Shared → Prop := Ccut.2.2.1.2.2.1
@[irreducible] noncomputable def name : Str := Ccut.2.2.1.2.2.2.1
@[irreducible] noncomputable def params : Arguments := Ccut.2.2.1.2.2.2.2.1
@[irreducible] noncomputable def pre : List Stmt := Ccut.2.2.1.2.2.2.2.2.1
@[irreducible] noncomputable def rest : List Stmt := Ccut.2.2.1.2.2.2.2.2.2.1
@[irreducible] noncomputable def rr : List Stmt := Ccut.2.2.1.2.2.2.2.2.2.2
@[irreducible] noncomputable def fore : List Stmt := Ccut.2.2.2.1.1
@[irreducible] noncomputable def fbody : List Stmt := Ccut.2.2.2.1.2.1
@[irreducible] noncomputable def ftgt : Expr := Ccut.2.2.2.1.2.2.1
@[irreducible] noncomputable def fiter : Expr := Ccut.2.2.2.1.2.2.2.1
@[irreducible] noncomputable def wpos : Pos := Ccut.2.2.2.1.2.2.2.2.1
@[irreducible] noncomputable def fpos : Pos := Ccut.2.2.2.1.2.2.2.2.2.1
@[irreducible] noncomputable def dV : Value := Ccut.2.2.2.1.2.2.2.2.2.2.1
@[irreducible] noncomputable def kV : Value := Ccut.2.2.2.1.2.2.2.2.2.2.2
@[irreducible] noncomputable def doc : Value := Ccut.2.2.2.2.1.1
@[irreducible] noncomputable def pm : Value := Ccut.2.2.2.2.1.2.1
@[irreducible] noncomputable def ct : Value := Ccut.2.2.2.2.1.2.2.1
@[irreducible] noncomputable def oc : Value := Ccut.2.2.2.2.1.2.2.2.1
@[irreducible] noncomputable def an : Option Addr := Ccut.2.2.2.2.1.2.2.2.2.1
@[irreducible] noncomputable def od : Option Addr := Ccut.2.2.2.2.1.2.2.2.2.2.1
@[irreducible] noncomputable def osl : Array (Option Value) := Ccut.2.2.2.2.1.2.2.2.2.2.2.1
@[irreducible] noncomputable def k : FC := Ccut.2.2.2.2.1.2.2.2.2.2.2.2
@[irreducible] noncomputable def rows : List Row := Ccut.2.2.2.2.2.1.1
@[irreducible] noncomputable def ovs : List (Str × Value) := Ccut.2.2.2.2.2.1.2.1
@[irreducible] noncomputable def b : Bk := Ccut.2.2.2.2.2.1.2.2.1
@[irreducible] noncomputable def s : Shared := Ccut.2.2.2.2.2.1.2.2.2.1
@[irreducible] noncomputable def m : Str → Option Value := Ccut.2.2.2.2.2.1.2.2.2.2.1
@[irreducible] noncomputable def oN : Obj := Ccut.2.2.2.2.2.1.2.2.2.2.2.1
@[irreducible] noncomputable def ov : Option Value := Ccut.2.2.2.2.2.1.2.2.2.2.2.2.1
@[irreducible] noncomputable def tw : Tok := Ccut.2.2.2.2.2.1.2.2.2.2.2.2.2
@[irreducible] noncomputable def u : Wd := Ccut.2.2.2.2.2.2.1
@[irreducible] noncomputable def q : List Wd := Ccut.2.2.2.2.2.2.2.1
@[irreducible] noncomputable def n : Nat := Ccut.2.2.2.2.2.2.2.2
end
set_option maxHeartbeats 1000000 in
theorem at_cut : Pcut w p loose mean mg mb A₀ base g' cn cs ca L ccd cl outer gd Q E name params pre rest rr fore fbody ftgt fiter wpos fpos dV kV doc pm ct oc an od osl k rows ovs b s m oN ov tw u q n := by
  intro st hpre B T dT hoD hov hV hrows O CH CH2 ok hsys N hm1 hm2 hm3 dN V hq I hn X0 X q1 q2 q4 r1 r3 r6 r7 r8 r9 r10 r11 r12 r14 r15 hr2 hr5 hr3 hrest hb hE hb0 h fF N0
  refine whl_turn (k := 0) hE ?_
  k_steps
  unfold Hold
  have hu := I.q u (hq ▸ .head _)
  have hus : u.Sublist [0, 1, 2, 3, 4] := by
    obtain ⟨e, he, e2⟩ := List.mem_map.mp hu.1
    exact e2 ▸ I.sub e he
  have hul : u.length ≤ 5 := hus.length_le
  have hu0 : u.length ≠ 0 := fun e => hu.2 (List.eq_nil_of_length_eq_zero e)
  have hwo : wordOf b = wdS u := by simp [wordOf, hq]
  have hpo : popped b = { b with queue := q } := by simp [popped, hq]
  with_reducible (refine' truthy_strK (b := true) ?hl ?hb ?_)
  case hl => (rw [hwo]; simp [Str.length]; omega)
  case hb => (rw [hwo]; simp [Str.length, hu0])
  k_steps
  (rename Fr g' _ _ _ => gF); (rename News g' _ _ _ => gN); (rename Below _ _ _ _ => fB); (rename Top _ _ _ _ _ _ => fT)
  rw [← canonW hm1 hm2 hm3] at gF
  have hI2 : PInv n (popped b) := hpo ▸ pop_inv I hq
  obtain ⟨e, he, heu⟩ : ∃ e ∈ st.book, e.w = u := by
    have h1 := hu.1
    have h2 : bookP st.book = b.book := V.hb
    rw [← h2] at h1
    obtain ⟨x, hx, e2⟩ := List.mem_map.mp h1
    obtain ⟨y, hy, rfl⟩ := List.mem_map.mp hx
    exact ⟨y, hy, e2⟩
  obtain ⟨preB, post, hbk⟩ := List.append_of_mem he
  obtain ⟨ew, ela, els, evs, ecap⟩ := e
  dsimp only at heu
  subst heu
  have hdl : @LT.lt Nat _ k.dm ela := by
    have := V.hlt (ela, W.listOf evs.toArray ecap) (List.mem_append_right _ (by rw [hbk]; simp [bookLed]))
    exact this
  k_dflt (refine' for_spec (k := { k with lw := ela }) (preB := preB) (st := ⟨els, evs, ecap, post, st.om, st.npb, st.pbs, st.tb, st.tl⟩) (wd := u) (s0 := popped b) (oN := oN) (tw := tw) (n := n) hb0 hpre hrest fB gF X0 fT ?N hm1 ?m2 hm3 dN dT hoD hov hV hrows hus ?V hI2 ?hn O CH CH2 (ok.lw hdl) hsys hE ?h)
  case N =>
    refine news_re gN (fun p hp => ?_)
    (try simp only [FC.led, FC.front, FC.ledW, lexLed, hbk, bookLed, List.map_append, List.map_cons, List.cons_append, List.nil_append] at hp ⊢)
    revert p; k_extra "x:sub"
  case m2 => rw [← hwo]; exact hm2
  case V => (obtain ⟨bk, om, npb, pbs, tb, tl⟩ := st; dsimp only at hbk; subst hbk; exact V)
  case hn => omega
  case h =>
    clear gF gN
    intro st2 oN2 ov2 h2 tk2 m2 F2 hmz N2 dN2 V2
    have htn : turn (relR rows) b = u.foldl (one (relR rows) u) (popped b) := by
      unfold turn
      rw [hq, hpo]
    have m21 : m2 (Str.ofString "lexer") = some (.ref k.zz.lx) := (hmz _ (by decide) (by decide) (by decide)).trans hm1
    have m22 : m2 (Str.ofString "word") = some (.str (wordOf b) tw) := (hmz _ (by decide) (by decide) (by decide)).trans hm2
    have m23 : m2 (Str.ofString "moves") = some (.ref k.dm) := (hmz _ (by decide) (by decide) (by decide)).trans hm3
    have Inb := fold_inv (rel := relR rows) hus (l := u) hI2
    rw [← htn] at V2 Inb
    generalize turn (relR rows) b = nb at V2 Inb h
    rw [canonW m21 m22 m23] at F2
    dsimp only [FC.led, FC.front, lexLed, List.cons_append, List.nil_append] at N2
    dsimp only
    k_steps
    unfold Hold
    refine wpAny_call ?_
    (rename Fr g' _ _ _ => gF); (rename News g' _ _ _ => gN)
    have O1 : LexOn w k.zz k.lf k.fix ([(k.L + 1 + 1, oN2), (145, tabObj st2.tb), (ela, W.listOf st2.vs.toArray st2.cap), (k.dm, st2.om), (k.D, k.oD), (k.ld, k.ode), (k.L + 1 + 1 + 1, k.oT), (k.L + 1, k.c3)] ++ (k.tail ++ (st2.tl ++ bookLed (preB ++ st2.post)))) base := by
      dsimp only [List.cons_append, List.nil_append]
      obtain ⟨l3, ⟨a1, a2, a3, a4, a5, a6⟩, ⟨b1, b2, b3, b4, b5, b6⟩, d1, d2, d3, e1, e2, e3⟩ := ok
      dsimp only at l3 a1 a2 a3 a4 a5 a6 b1 b2 b3 b4 b5 b6 d1 d2
      refine LexOn.cons (LexOn.cons (LexOn.cons (LexOn.cons (LexOn.cons (LexOn.cons (LexOn.cons (LexOn.cons (O.app fun p hp => ?_) ?_) ?_) ?_) ?_) ?_) ?_) ?_) ?_
      · have : @LT.lt Nat _ k.dm p.1 := V2.hlt p (sub_cur p hp)
        exact ⟨neN (by k_extra "n:c"), neN (by k_extra "n:c"), neN (by k_extra "n:c")⟩
      all_goals exact ⟨(by k_ne), (by k_ne), (by k_ne)⟩
    have hcl : ∀ {c : Addr} {h5 : Heap} {nl' npb' : Nat} {tln' : Tok} {pbs' : List Value}, News g' k.L h5 ((k.L + 1 + 1, oN2) :: (145, tabObj st2.tb) :: (ela, W.listOf st2.vs.toArray st2.cap) :: (k.dm, st2.om) :: (k.D, k.oD) :: (k.ld, k.ode) :: (k.L + 1 + 1 + 1, k.oT) :: (k.L + 1, k.c3) :: lexAll k.zz k.lf [] nl' k.ln tln' pbs' npb' k.fix (k.tail ++ (st2.tl ++ bookLed (preB ++ st2.post)))) → News g' k.L h5 ((k.L + 1 + 1, oN2) :: FC.ledW { k with nl := nl', tln := tln' } ⟨preB ++ ⟨u, ela, st2.ls, st2.vs, st2.cap⟩ :: st2.post, st2.om, npb', pbs', st2.tb, st2.tl⟩) := fun {_ _ _ _ _ _} N => news_re N (fun p hp => by
      (try simp only [FC.ledW, lexAll, lexLed, bookLed, List.map_append, List.map_cons, List.cons_append, List.nil_append] at hp ⊢)
      revert p; k_extra "x:sub")
    obtain ⟨ls2, vs2, cap2, post2, om2, npb2, pbs2, tb2, tl2⟩ := st2
    (try dsimp only at *)
    have hq2 := V2.hq
    dsimp only [FS.ws] at hq2
    cases hnq : nb.queue with
    | nil =>
      rw [hnq] at hq2
      cases hq2
      k_dflt (refine' code_at (get_none fB gF X (lits_all [(k.L + 1 + 1, oN2), (145, tabObj tb2), (ela, W.listOf vs2.toArray cap2), (k.dm, om2), (k.D, k.oD), (k.ld, k.ode), (k.L + 1 + 1 + 1, k.oT), (k.L + 1, k.c3)] gN) fT ?hk O1 ?h) ?b1 ?b2 ?b3 ?b4 ?b5)
      case b1 => exact rfl
      case b2 => exact rfl
      case b3 => exact rfl
      case b4 => exact Nat.le_of_ble_eq_true rfl
      case b5 => exact Nat.le_of_ble_eq_true rfl
      case hk => exact rfl
      case h =>
      clear gF gN
      intro h7 tk7 t7 nl7 tln7 fF fN
      replace fN := all_lits [(k.L + 1 + 1, oN2), (145, tabObj tb2), (ela, W.listOf vs2.toArray cap2), (k.dm, om2), (k.D, k.oD), (k.ld, k.ode), (k.L + 1 + 1 + 1, k.oT), (k.L + 1, k.c3)] fN
      dsimp only [lexAll, lexLed, List.cons_append, List.nil_append] at fN
      k_steps
      unfold Hold
      (rename Fr g' _ _ _ => kF); (rename News g' _ _ _ => kN)
      refine h ⟨preB ++ ⟨u, ela, ls2, vs2, cap2⟩ :: post2, om2, npb2, [], tb2, tl2⟩ _ _ oN2 ov2 t7 nl7 tln7 ⟨_, _, rfl⟩ kF (hcl (c := ela) kN) rfl ?_ rfl dN2 ?_
      · show some _ = some _
        simp [wordOf, hnq]
        decide +kernel
      · have e : popped nb = nb := by
          cases nb
          dsimp only at hnq
          subst hnq
          rfl
        rw [e]
        exact V2
    | cons u2 q2 =>
      rw [hnq, List.map_cons] at hq2
      cases hq2 with
      | cons _ t5 hq3 =>
      rename_i pbs3
      k_dflt (refine' code_at (get_pushed fB gF X (lits_all [(k.L + 1 + 1, oN2), (145, tabObj tb2), (ela, W.listOf vs2.toArray cap2), (k.dm, om2), (k.D, k.oD), (k.ld, k.ode), (k.L + 1 + 1 + 1, k.oT), (k.L + 1, k.c3)] gN) fT ?hk O1 ?hlen ?h) ?b1 ?b2 ?b3 ?b4 ?b5)
      case b1 => exact rfl
      case b2 => exact rfl
      case b3 => exact rfl
      case b4 => exact Nat.le_of_ble_eq_true rfl
      case b5 => exact Nat.le_of_ble_eq_true rfl
      case hk => exact rfl
      case hlen =>
        have h1 := hq3.length
        have h2 := Inb.b2
        rw [hnq] at h2
        rw [List.length_map] at h1
        simp only [List.length_cons] at h2 ⊢
        omega
      case h =>
      clear gF gN
      intro h7 tk7 npb7 fF fN
      replace fN := all_lits [(k.L + 1 + 1, oN2), (145, tabObj tb2), (ela, W.listOf vs2.toArray cap2), (k.dm, om2), (k.D, k.oD), (k.ld, k.ode), (k.L + 1 + 1 + 1, k.oT), (k.L + 1, k.c3)] fN
      dsimp only [lexAll, lexLed, List.cons_append, List.nil_append] at fN
      k_steps
      unfold Hold
      (rename Fr g' _ _ _ => kF); (rename News g' _ _ _ => kN)
      refine h ⟨preB ++ ⟨u, ela, ls2, vs2, cap2⟩ :: post2, om2, npb7, pbs3, tb2, tl2⟩ _ _ oN2 ov2 t5 k.nl k.tln ⟨_, _, rfl⟩ kF (hcl (c := ela) kN) rfl ?_ rfl dN2 ?_
      · show some _ = some _
        simp [wordOf, hnq]
      · have e : popped nb = { nb with queue := q2 } := by simp [popped, hnq]
        rw [e]
        exact ⟨V2.hb, hq3, V2.hok, V2.hom, V2.htb, V2.hlt, V2.hnd⟩
theorem all_cut : ∀ w p loose mean mg mb A₀ base g' cn cs ca L ccd cl outer gd Q E name params pre rest rr fore fbody ftgt fiter wpos fpos dV kV doc pm ct oc an od osl k rows ovs b s m oN ov tw u q n, Pcut w p loose mean mg mb A₀ base g' cn cs ca L ccd cl outer gd Q E name params pre rest rr fore fbody ftgt fiter wpos fpos dV kV doc pm ct oc an od osl k rows ovs b s m oN ov tw u q n := by
  have h : Pcut w p loose mean mg mb A₀ base g' cn cs ca L ccd cl outer gd Q E name params pre rest rr fore fbody ftgt fiter wpos fpos dV kV doc pm ct oc an od osl k rows ovs b s m oN ov tw u q n := at_cut
  delta w p loose mean mg mb A₀ base g' cn cs ca L ccd cl outer gd Q E name params pre rest rr fore fbody ftgt fiter wpos fpos dV kV doc pm ct oc an od osl k rows ovs b s m oN ov tw u q n at h
  exact fun w p loose mean mg mb A₀ base g' cn cs ca L ccd cl outer gd Q E name params pre rest rr fore fbody ftgt fiter wpos fpos dV kV doc pm ct oc an od osl k rows ovs b s m oN ov tw u q n => Classical.choose_spec ex_cut h ((w, p, loose, mean, mg, mb, A₀, base), (g', cn, cs, ca, L, ccd, cl, outer), (gd, Q, E, name, params, pre, rest, rr), (fore, fbody, ftgt, fiter, wpos, fpos, dV, kV), (doc, pm, ct, oc, an, od, osl, k), (rows, ovs, b, s, m, oN, ov, tw), (u, q, n))
end K_step_spec
theorem step_spec : type_of% (@Subtype.property _ _ K_step_spec.cut (no_implicit_lambda% K_step_spec.all_cut)) := no_implicit_lambda% (@Subtype.property _ _ K_step_spec.cut (no_implicit_lambda% K_step_spec.all_cut))
end Mine
end
section
open PySem PySem.W PyProof.Rows PySem.Spec PySem.Calls
set_option maxRecDepth 100000
namespace Mine
open Plain (Wd Bk lft addTo one turn)
theorem FCok.nl {k : FC} {a : Addr} (o : FCok { k with lw := a }) {nl : Nat} {tln : Tok} : FCok { ({ k with nl := nl, tln := tln } : FC) with lw := a } := ⟨o.l3, o.a, o.b, o.d1, o.d2, o.d3, o.e1, o.e2, o.e3⟩
theorem turn_inv {rel : Nat → Nat → Bool} {b : Bk} {n : Nat} (I : PInv n b) : PInv (n + 5) (turn rel b) := by
  cases hq : b.queue with
  | nil =>
    have e : turn rel b = b := by unfold turn; rw [hq]
    rw [e]
    exact ⟨I.nd, I.sub, I.q, by have := I.b1; omega, by have := I.b2; omega, fun e he => by have := I.b3 e he; omega⟩
  | cons u q =>
    have hu := I.q u (hq ▸ .head _)
    have hus : u.Sublist [0, 1, 2, 3, 4] := by
      obtain ⟨e, he, e2⟩ := List.mem_map.mp hu.1
      exact e2 ▸ I.sub e he
    have hul : u.length ≤ 5 := hus.length_le
    have e : turn rel b = u.foldl (one rel u) { b with queue := q } := by unfold turn; rw [hq]
    rw [e]
    have J := fold_inv (rel := rel) hus (l := u) (pop_inv I hq)
    exact ⟨J.nd, J.sub, J.q, by have := J.b1; omega, by have := J.b2; omega, fun e he => by have := J.b3 e he; omega⟩
theorem while_spec {w : World} {p : Program} {loose : List Str} {mean : ExcName → Option Value} {mg mb : Str → Option Value} {A₀ : Around} {base g' : Heap} {cn : Str} {cs : Scope} {ca L : Addr} {ccd : Value} {cl : List (Str × Addr)} {outer : List Env} {gd : Option (List Code)} {Q : Flow → Shared → Prop} {E : Value → Shared → Prop}
    {name qual : Str} {params : Arguments} {pre rest rr wr wore fore fbody : List Stmt} {wtest ftgt fiter : PySem.Expr} {wpos fpos : Pos} {scope : Scope} {dV kV doc pm cdv ct oc : Value} {an od : Option Addr} {osl : Array (Option Value)}
    (hb : (Mine.hd.heap_39 w.params).lookup 148 = some ⟨oc, od, .func (fnOf name qual params (pre ++ rest) scope dV kV doc pm an cdv ct), osl⟩) (hpre : pre.length = 9)
    (hrest : rest = .While wtest (.For ftgt fiter fbody fore fpos :: wr) wore wpos :: rr)
    {k : FC} {rows : List Row} {ovs : List (Str × Value)}
    (B : Below A₀ base (envX cn cs L ca ccd cl :: outer) g') (X : (Mine.hd.heap_39 w.params).In g') (T : Top p loose mean mg mb g')
    (dT : k.oT.data = .cell (some (.ref k.D)))
    (hoD : k.oD.IsDictOf (PySem.strKind Challenge.rw_pg0196_01.row.prog w) ovs) (hov : ovs.map Prod.fst = rows.map (·.nm)) (hV : ∀ p ∈ ovs, ∃ r ∈ rows, r.nm = p.1 ∧ ∃ t, p.2 = .str (takenOf rows r) t)
    (hrows : rows.map (·.nm) = [⟨#[97]⟩, ⟨#[98]⟩, ⟨#[99]⟩, ⟨#[100]⟩, ⟨#[101]⟩])
    (O : LexOn w k.zz k.lf k.fix k.tail base) (CH : CodeHd base 142 138) (CH2 : CodeHd base 147 145) (ok : FCok { k with lw := k.dm + 1 }) (hsys : (k.dm == sysModules) = false)
    (hE : PassesOwn (model Challenge.rw_pg0196_01.row.prog w) ((At 30 gd (envX cn cs L ca ccd cl :: outer)).deeper (envOfC qual scope k.L 148 cdv)) (envOfC qual scope k.L 148 cdv) E)
    {fin : Bk} (hfq : fin.queue = []) {s0 : Shared} (h : ∀ st' h' tk' m', Fr g' k.L h' m' → m' (Str.ofString "moves") = some (.ref k.dm) → News g' k.L h' ((145, tabObj st'.tb) :: (k.fix ++ (k.tail ++ ((k.dm, st'.om) :: bookLed st'.book)))) → WInv w k.dm fin st' → Q .next { s0 with heap := h', toks := tk' }) :
    ∀ (fuel n : Nat) (b : Bk) (st : WS) (s : Shared) (m : Str → Option Value) (oN : Obj) (ov : Option Value) (tw : Tok) (nl : Nat) (tln : Tok),
      (∃ h tk, s = { s0 with heap := h, toks := tk }) → Plain.run (relR rows) fuel b = fin → n + 5 * fuel ≤ 890 → PInv n b →
      Fr g' k.L s.heap m → News g' k.L s.heap ((k.L + 1 + 1, oN) :: FC.ledW { k with nl := nl, tln := tln } st) →
      m (Str.ofString "lexer") = some (.ref k.zz.lx) → m (Str.ofString "word") = some (.str (wordOf b) tw) → m (Str.ofString "moves") = some (.ref k.dm) → oN.data = .cell ov → WInv w k.dm (popped b) st →
      WhlRest Challenge.rw_pg0196_01.row.prog w ((At 30 gd (envX cn cs L ca ccd cl :: outer)).deeper (envOfC qual scope k.L 148 cdv)) E (envOfC qual scope k.L 148 cdv) wtest (.For ftgt fiter fbody fore fpos :: wr) wore Q 0 s := by
  have stop : ∀ (b : Bk) (st : WS) (s : Shared) (m : Str → Option Value) (oN : Obj) (ov : Option Value) (tw : Tok) (nl : Nat) (tln : Tok), b.queue = [] → b = fin → (∃ h tk, s = { s0 with heap := h, toks := tk }) →
      Fr g' k.L s.heap m → News g' k.L s.heap ((k.L + 1 + 1, oN) :: FC.ledW { k with nl := nl, tln := tln } st) →
      m (Str.ofString "lexer") = some (.ref k.zz.lx) → m (Str.ofString "word") = some (.str (wordOf b) tw) → m (Str.ofString "moves") = some (.ref k.dm) → oN.data = .cell ov → WInv w k.dm (popped b) st →
      WhlRest Challenge.rw_pg0196_01.row.prog w ((At 30 gd (envX cn cs L ca ccd cl :: outer)).deeper (envOfC qual scope k.L 148 cdv)) E (envOfC qual scope k.L 148 cdv) wtest (.For ftgt fiter fbody fore fpos :: wr) wore Q 0 s := by
    rintro b st s m oN ov tw nl tln hbq rfl ⟨h0, tk0, rfl⟩ F N m1 m2 m3 dN V
    refine stop_spec (k := { k with nl := nl, tln := tln }) hb hpre hrest B X T dT hoD hov hV hrows O CH CH2 (FCok.nl ok) hsys hE F N m1 m2 m3 dN V hbq fun h' tk' m' F' m'' N' => h st h' tk' m' F' m'' N' ?_
    have e : popped b = b := by
      cases b
      dsimp only at hbq
      subst hbq
      rfl
    rw [e] at V
    exact V
  intro fuel
  induction fuel with
  | zero =>
    intro n b st s m oN ov tw nl tln hs hfin hn I F N m1 m2 m3 dN V
    have e : b = fin := hfin
    exact stop b st s m oN ov tw nl tln (by rw [e]; exact hfq) e hs F N m1 m2 m3 dN V
  | succ fuel ih =>
    intro n b st s m oN ov tw nl tln hs hfin hn I F N m1 m2 m3 dN V
    cases hbq : b.queue with
    | nil =>
      rw [run_nil hbq] at hfin
      exact stop b st s m oN ov tw nl tln hbq hfin hs F N m1 m2 m3 dN V
    | cons u q =>
      obtain ⟨h0, tk0, rfl⟩ := hs
      refine step_spec (k := { k with nl := nl, tln := tln }) hb hpre hrest B X T dT hoD hov hV hrows O CH CH2 (FCok.nl ok) hsys hE F N m1 m2 m3 dN V hbq I (by omega) ?_
      rintro st' s' m' oN' ov' tw' nl' tln' ⟨h1, tk1, rfl⟩ F' N' m1' m2' m3' dN' V'
      exact ih (n + 5) (turn (relR rows) b) st' _ m' oN' ov' tw' nl' tln' ⟨h1, tk1, rfl⟩ hfin (by omega) (turn_inv I) F' N' m1' m2' m3' dN' V'

end Mine
end
section
theorem Mine.off_W34 : True := by (w_top off; trivial)
open PySem PySem.W PyProof.Rows PySem.Spec PySem.Calls
set_option maxRecDepth 100000
namespace Mine
def held_W34_1 : List String := "call builtin:str.join;eval DictComp;eval ListComp;exec While Name cons nil;eval Dict;subscriptTail".splitOn ";"
local macro_rules | `(tactic| walk_at $s:str) => if held_W34_1.contains s.getString then `(tactic| (k_here; refine hold ?_)) else Lean.Macro.throwUnsupported
local macro_rules | `(tactic| walk_at "call ref") => `(tactic| (k_here; (try dsimp only [List.cons_append, List.nil_append, List.append_nil]); refine hold ?_))
namespace K_moves_rest
set_option maxHeartbeats 400000 in
noncomputable def cut : (@Subtype Prop fun P => P → ∀ {w : World} {p : Program} {loose : List Str} {mean : ExcName → Option Value} {mg mb : Str → Option Value} {A₀ : Around} {base g' : Heap} {L' : Addr} {m : Str → Option Value} {cn : Str} {cs : Scope} {ca L : Addr} {ccd : Value} {cl : List (Str × Addr)} {outer : List Env} {gd : Option (List Code)} {s : Shared} {Q : Flow → Shared → Prop} {E : Value → Shared → Prop} {name qual : Str} {params : Arguments} {pre rest : List Stmt} {scope : Scope} {dV kV doc pm cdv ct oc : Value} {an od : Option Addr} {osl : Array (Option Value)} (hb : (Mine.hd.heap_39 w.params).lookup 148 = some ⟨oc, od, .func (fnOf name qual params (pre ++ rest) scope dV kV doc pm an cdv ct), osl⟩) (hpre : pre.length = 4) {tail fix : List (Addr × Obj)} {zz : LexH} {ld lf : Addr} {ode o1 o2 c3 : Obj} {nl npb : Nat} {ln : Int} {tln : Tok} (B : Below A₀ base (envX cn cs L ca ccd cl :: outer) g') (F : Fr g' L' s.heap m) (X : (Mine.hd.heap_39 w.params).In g') (T : Top p loose mean mg mb g') (N : News g' L' s.heap ((ld, ode) :: (L' + 1 + 1 + 1, o1) :: (L' + 1 + 1, o2) :: (L' + 1, c3) :: (145, tabObj #[]) :: lexAll zz lf [] nl ln tln [] npb fix tail)) (hm : m (Str.ofString "lexer") = some (.ref zz.lx)) (d1 : o1.data = .cell none) (d2 : o2.data = .cell none) (hc3 : c3.data = .cell (some (.ref ld))) {rows : List Row} (hrows : rows.map (·.nm) = [⟨#[97]⟩, ⟨#[98]⟩, ⟨#[99]⟩, ⟨#[100]⟩, ⟨#[101]⟩]) (hde : ode.IsDictOf (PySem.strKind Challenge.rw_pg0196_01.row.prog w) (rowsV rows)) (hws : ∀ r ∈ rows, IsWs tail r.x r.k r.b r.n r.nt) (O : LexOn w zz lf fix tail base) (TO : TailOff L' ld lf zz fix tail) (CH : CodeHd base 142 138) (CH2 : CodeHd base 147 145) (hl3 : @LT.lt Nat _ 145 L') (hsys : (ld == sysModules) = false) (hlld : @LT.lt Nat _ (L' + 1 + 1 + 1) ld) (hA : @LT.lt Nat _ (L' + 1 + 1 + 1) lf ∧ @LT.lt Nat _ (L' + 1 + 1 + 1) zz.lx ∧ @LT.lt Nat _ (L' + 1 + 1 + 1) zz.dl ∧ @LT.lt Nat _ (L' + 1 + 1 + 1) zz.st ∧ @LT.lt Nat _ (L' + 1 + 1 + 1) zz.ds ∧ @LT.lt Nat _ (L' + 1 + 1 + 1) zz.pb) (hB : @LT.lt Nat _ lf ld ∧ @LT.lt Nat _ zz.lx ld ∧ @LT.lt Nat _ zz.dl ld ∧ @LT.lt Nat _ zz.st ld ∧ @LT.lt Nat _ zz.ds ld ∧ @LT.lt Nat _ zz.pb ld) (hE : PassesOwn (model Challenge.rw_pg0196_01.row.prog w) ((At 30 gd (envX cn cs L ca ccd cl :: outer)).deeper (envOfC qual scope L' 148 cdv)) (envOfC qual scope L' 148 cdv) E) (hgood : (Plain.run (relR rows) 31 Plain.start).queue = []) (h : ∀ dm st h' tk' m', Fr g' L' h' m' → News g' L' h' ((145, tabObj st.tb) :: (fix ++ (tail ++ ((dm, st.om) :: bookLed st.book)))) → (dm == sysModules) = false → WInv w dm (Plain.run (relR rows) 31 Plain.start) st → Q (.ret (.ref dm)) { s with heap := h', toks := tk' }), wpAny (model Challenge.rw_pg0196_01.row.prog w) ((At 30 gd (envX cn cs L ca ccd cl :: outer)).deeper (envOfC qual scope L' 148 cdv)) (execs rest (envOfC qual scope L' 148 cdv)) Q E s) := by
  refine' mkCut fun hole => ?_
  rotate_left
  focus
  intro w p loose mean mg mb A₀ base g' L' m cn cs ca L ccd cl outer gd s Q E name qual params pre rest scope dV kV doc pm cdv ct oc an od osl hb hpre tail fix zz ld lf ode o1 o2 c3 nl npb ln tln B F X T N hm d1 d2 hc3 rows hrows hde hws O TO CH CH2 hl3 hsys hlld hA hB hE hgood h
  have X0 := X
  have hb9 : (Mine.hd.heap_39 w.params).lookup 148 = some ⟨oc, od, .func (fnOf name qual params ((pre ++ rest).take 9 ++ (pre ++ rest).drop 9) scope dV kV doc pm an cdv ct), osl⟩ := by rw [List.take_append_drop]; exact hb
  revert X
  k_fill
  intro X
  refine' use_look hb ?hlk ?_
  case hlk => k_is
  intro hb2
  injection hb2 with q1 q2 q3 q4
  injection q3 with q3
  injection q3 with r1 r2 r3 r4 r5 r6 r7 r8 r9 r10 r11 r12 r13 r14 r15
  injection r4 with r4
  have hr : rest = (pre ++ rest).drop 4 := by rw [← hpre]; simp
  rw [← r4] at hr
  dsimp only [List.drop] at hr
  clear hb
  subst hr r2 r5 r13
  have fF := F
  rw [canon1 hm] at fF
  clear F
  dsimp only [lexAll, lexLed, List.cons_append, List.nil_append] at N
  revert hpre B T N hm d1 d2 hc3 hrows hde hws O TO CH CH2 hl3 hsys hlld hA hB hgood h X0 X q1 q2 q4 r1 r3 r6 r7 r8 r9 r10 r11 r12 r14 r15 r4 hE hb9 fF
  revert w p loose mean mg mb A₀ base g' L' m cn cs ca L ccd cl outer gd s Q E name params pre dV kV doc pm ct oc an od osl tail fix zz ld lf ode o1 o2 c3 nl npb ln tln rows
  exact no_implicit_lambda% hole.get
noncomputable section
noncomputable def Pcut : (World) → (Program) → (List Str) → (ExcName → Option Value) → (Str → Option Value) → (Str → Option Value) → (Around) → (Heap) → (Heap) → (Addr) → (Str → Option Value) → (Str) → (Scope) → (Addr) → (Addr) → (Value) → (List (Str × Addr)) → (List Env) → (Option (List Code)) → (Shared) → (Flow → Shared → Prop) → (Value → Shared → Prop) → (Str) → (Arguments) → (List Stmt) → (Value) → (Value) → (Value) → (Value) → (Value) → (Value) → (Option Addr) → (Option Addr) → (Array (Option Value)) → (List (Addr × Obj)) → (List (Addr × Obj)) → (LexH) → (Addr) → (Addr) → (Obj) → (Obj) → (Obj) → (Obj) → (Nat) → (Nat) → (Int) → (Tok) → (List Row) → Prop := (@id (∀ {Rcut : (World) → (Program) → (List Str) → (ExcName → Option Value) → (Str → Option Value) → (Str → Option Value) → (Around) → (Heap) → (Heap) → (Addr) → (Str → Option Value) → (Str) → (Scope) → (Addr) → (Addr) → (Value) → (List (Str × Addr)) → (List Env) → (Option (List Code)) → (Shared) → (Flow → Shared → Prop) → (Value → Shared → Prop) → (Str) → (Arguments) → (List Stmt) → (Value) → (Value) → (Value) → (Value) → (Value) → (Value) → (Option Addr) → (Option Addr) → (Array (Option Value)) → (List (Addr × Obj)) → (List (Addr × Obj)) → (LexH) → (Addr) → (Addr) → (Obj) → (Obj) → (Obj) → (Obj) → (Nat) → (Nat) → (Int) → (Tok) → (List Row) → Prop}, cut.1 = (∀ w p loose mean mg mb A₀ base g' L' m cn cs ca L ccd cl outer gd s Q E name params pre dV kV doc pm ct oc an od osl tail fix zz ld lf ode o1 o2 c3 nl npb ln tln rows, Rcut w p loose mean mg mb A₀ base g' L' m cn cs ca L ccd cl outer gd s Q E name params pre dV kV doc pm ct oc an od osl tail fix zz ld lf ode o1 o2 c3 nl npb ln tln rows) → _) fun {Rcut} _ => Rcut) rfl
noncomputable def Tcut : Type := (World × Program × (List Str) × (ExcName → Option Value) × (Str → Option Value) × (Str → Option Value) × Around) × (Heap × Heap × Addr × (Str → Option Value) × Str × Scope × Addr) × (Addr × Value × (List (Str × Addr)) × (List Env) × (Option (List Code)) × Shared × (Flow → Shared → Prop)) × ((Value → Shared → Prop) × Str × Arguments × (List Stmt) × Value × Value × Value) × (Value × Value × Value × (Option Addr) × (Option Addr) × (Array (Option Value)) × (List (Addr × Obj))) × ((List (Addr × Obj)) × LexH × Addr × Addr × Obj × Obj × Obj) × (Obj × Nat × Nat × Int × Tok × (List Row))
noncomputable def Qcut (x : Tcut) : Prop := Pcut x.1.1 x.1.2.1 x.1.2.2.1 x.1.2.2.2.1 x.1.2.2.2.2.1 x.1.2.2.2.2.2.1 x.1.2.2.2.2.2.2 x.2.1.1 x.2.1.2.1 x.2.1.2.2.1 x.2.1.2.2.2.1 x.2.1.2.2.2.2.1 x.2.1.2.2.2.2.2.1 x.2.1.2.2.2.2.2.2 x.2.2.1.1 x.2.2.1.2.1 x.2.2.1.2.2.1 x.2.2.1.2.2.2.1 x.2.2.1.2.2.2.2.1 x.2.2.1.2.2.2.2.2.1 x.2.2.1.2.2.2.2.2.2 x.2.2.2.1.1 x.2.2.2.1.2.1 x.2.2.2.1.2.2.1 x.2.2.2.1.2.2.2.1 x.2.2.2.1.2.2.2.2.1 x.2.2.2.1.2.2.2.2.2.1 x.2.2.2.1.2.2.2.2.2.2 x.2.2.2.2.1.1 x.2.2.2.2.1.2.1 x.2.2.2.2.1.2.2.1 x.2.2.2.2.1.2.2.2.1 x.2.2.2.2.1.2.2.2.2.1 x.2.2.2.2.1.2.2.2.2.2.1 x.2.2.2.2.1.2.2.2.2.2.2 x.2.2.2.2.2.1.1 x.2.2.2.2.2.1.2.1 x.2.2.2.2.2.1.2.2.1 x.2.2.2.2.2.1.2.2.2.1 x.2.2.2.2.2.1.2.2.2.2.1 x.2.2.2.2.2.1.2.2.2.2.2.1 x.2.2.2.2.2.1.2.2.2.2.2.2 x.2.2.2.2.2.2.1 x.2.2.2.2.2.2.2.1 x.2.2.2.2.2.2.2.2.1 x.2.2.2.2.2.2.2.2.2.1 x.2.2.2.2.2.2.2.2.2.2.1 x.2.2.2.2.2.2.2.2.2.2.2
theorem ex_cut : ∃ x : Tcut, Qcut x → ∀ y, Qcut y := by
  haveI : Nonempty LexH := by refine ⟨?_⟩; repeat' (first | exact default | constructor)
  haveI := neW; haveI := neA; haveI := neS
  haveI : Nonempty Tcut := by unfold Tcut; set_option synthInstance.maxSize 2000 in infer_instance
  exact henk1 Qcut
noncomputable def Ccut : Tcut := Classical.choose ex_cut
@[irreducible] noncomputable def w : World := Ccut.1.1
@[irreducible] noncomputable def p : Program := Ccut.1.2.1
@[irreducible] noncomputable def loose : List Str := Ccut.1.2.2.1
@[irreducible] noncomputable def mean : ExcName → Option Value := Ccut.1.2.2.2.1
@[irreducible] noncomputable def mg : Str → Option Value := Ccut.1.2.2.2.2.1
@[irreducible] noncomputable def mb : Str → Option Value := Ccut.1.2.2.2.2.2.1
@[irreducible] noncomputable def A₀ : Around := Ccut.1.2.2.2.2.2.2
@[irreducible] noncomputable def base : Heap := Ccut.2.1.1
@[irreducible] noncomputable def g' : Heap := Ccut.2.1.2.1
@[irreducible] noncomputable def L' : Addr := Ccut.2.1.2.2.1
@[irreducible] noncomputable def m : Str → Option Value := Ccut.2.1.2.2.2.1
@[irreducible] noncomputable def cn : Str := Ccut.2.1.2.2.2.2.1
@[irreducible] noncomputable def cs : Scope := Ccut.2.1.2.2.2.2.2.1
@[irreducible] noncomputable def ca : Addr := Ccut.2.1.2.2.2.2.2.2
@[irreducible] noncomputable def L : Addr := Ccut.2.2.1.1
@[irreducible] noncomputable def ccd : Value := Ccut.2.2.1.2.1
@[irreducible] noncomputable def cl : List (Str × Addr) := Ccut.2.2.1.2.2.1
@[irreducible] noncomputable def outer : List Env := Ccut.2.2.1.2.2.2.1
@[irreducible] noncomputable def gd : Option (List Code) := Ccut.2.2.1.2.2.2.2.1
@[irreducible] noncomputable def s : Shared := Ccut.2.2.1.2.2.2.2.2.1
@[irreducible] noncomputable def Q : Flow → Shared → Prop := Ccut.2.2.1.2.2.2.2.2.2
@[irreducible] noncomputable def E : Value → Shared → Prop := Ccut.2.2.2.1.1
@[irreducible] noncomputable def name : Str := Ccut.2.2.2.1.2.1
@[irreducible] noncomputable def params : Arguments := Ccut.2.2.2.1.2.2.1
@[irreducible] noncomputable def pre : List Stmt := Ccut.2.2.2.1.2.2.2.1
@[irreducible] noncomputable def dV : Value := Ccut.2.2.2.1.2.2.2.2.1
@[irreducible] noncomputable def kV : Value := Ccut.2.2.2.1.2.2.2.2.2.1
@[irreducible] noncomputable def doc : Value := Ccut.2.2.2.1.2.2.2.2.2.2
@[irreducible] noncomputable def pm : Value := Ccut.2.2.2.2.1.1
@[irreducible] noncomputable def ct : Value := Ccut.2.2.2.2.1.2.1
@[irreducible] noncomputable def oc : Value := Ccut.2.2.2.2.1.2.2.1
@[irreducible] noncomputable def an : Option Addr := Ccut.2.2.2.2.1.2.2.2.1
@[irreducible] noncomputable def od : Option Addr := Ccut.2.2.2.2.1.2.2.2.2.1
@[irreducible] noncomputable def osl : Array (Option Value) := Ccut.2.2.2.2.1.2.2.2.2.2.1
@[irreducible] noncomputable def tail : List (Addr × Obj) := Ccut.2.2.2.2.1.2.2.2.2.2.2
@[irreducible] noncomputable def fix : List (Addr × Obj) := Ccut.2.2.2.2.2.1.1
@[irreducible] noncomputable def zz : LexH := Ccut.2.2.2.2.2.1.2.1
@[irreducible] noncomputable def ld : Addr := Ccut.2.2.2.2.2.1.2.2.1
@[irreducible] noncomputable def lf : Addr := Ccut.2.2.2.2.2.1.2.2.2.1
@[irreducible] noncomputable def ode : Obj := Ccut.2.2.2.2.2.1.2.2.2.2.1
@[irreducible] noncomputable def o1 : Obj := Ccut.2.2.2.2.2.1.2.2.2.2.2.1
@[irreducible] noncomputable def o2 : Obj := Ccut.2.2.2.2.2.1.2.2.2.2.2.2
@[irreducible] noncomputable def c3 : Obj := Ccut.2.2.2.2.2.2.1
@[irreducible] noncomputable def nl : Nat := Ccut.2.2.2.2.2.2.2.1
@[irreducible] noncomputable def npb : Nat := Ccut.2.2.2.2.2.2.2.2.1
@[irreducible] noncomputable def ln : Int := Ccut.2.2.2.2.2.2.2.2.2.1
@[irreducible] noncomputable def tln : Tok := Ccut.2.2.2.2.2.2.2.2.2.2.1
@[irreducible] noncomputable def rows : List Row := Ccut.2.2.2.2.2.2.2.2.2.2.2
end
set_option maxHeartbeats 400000 in
theorem at_cut : Pcut w p loose mean mg mb A₀ base g' L' m cn cs ca L ccd cl outer gd s Q E name params pre dV kV doc pm ct oc an od osl tail fix zz ld lf ode o1 o2 c3 nl npb ln tln rows := by
  intro hpre B T N hm d1 d2 hc3 hrows hde hws O TO CH CH2 hl3 hsys hlld hA hB hgood h X0 X q1 q2 q4 r1 r3 r6 r7 r8 r9 r10 r11 r12 r14 r15 r4 hE hb9 fF
  k_steps
  unfold Hold
  (rename Fr _ _ _ _ => fF); (rename News _ _ _ _ => fN)
  k_dflt (refine' dictComp_cell (knd := PySem.strKind _ _) (h₀ := g') (L := L') (m := fun v => if v = Str.ofString "lexer" then some (.ref zz.lx) else m v) (cl := [(Str.ofString "leads", L' + 1)]) ?hclos ?hkind ?hnames ?hcf ?hpc ?hx ?_)
  trace "A"
  case hclos => with_unfolding_all rfl
  trace "B"
  case hkind => rfl
  case hnames => decide
  case hcf => intro n; rfl
  case hpc => intro h; rfl
  trace "C"
  case hx => with_unfolding_all rfl
  trace "D"
  walk1
  (rename Fr _ _ _ _ => fF); (rename News _ _ _ _ => fN)
  have hnd : (rows.map (·.nm)).Nodup := by rw [hrows]; decide
  have hfst : (rowsV rows).map Prod.fst = rows.map (·.nm) := by simp [rowsV]
  refine ⟨ld, ode, _, _, fun k y => ∃ r ∈ rows, r.nm = k ∧ ∃ t, y = .str (takenOf rows r) t, rfl, rfl, hsys, fF, fN, by k_mem, hde, ?sz, ?nd, ?turn, ?el, ?fin⟩
  case sz => (rw [sizeLine_eq]; have hl5 : (rowsV rows).length = 5 := by (rw [rowsV, List.length_map, ← List.length_map (f := Row.nm), hrows]; rfl)
              rw [hl5]; exact Nat.le_of_ble_eq_true rfl)
  case nd => rw [hfst]; exact hnd
  case turn =>
    intro k v I oI C oC c oc D oD h tk E' hkm hkv hoc F N
    obtain ⟨t, rfl⟩ := Value.isStrOf_shape hkv
    walk1
    exact ⟨strKind_is _ _ _ _, _, _, rfl, F, N⟩
  case el =>
    intro k v I oI C oC c oc D oD h tk E' hkm hkv hoc F N
    obtain ⟨t, rfl⟩ := Value.isStrOf_shape hkv
    rw [hfst] at hkm
    obtain ⟨r, hr, rfl⟩ := List.mem_map.mp hkm
    clear fF fN hkm
    have fF := F
    have fN := N
    clear F N
    k_steps
    unfold Hold
    k_dflt (refine' listComp_dict (knd := PySem.strKind _ _) (h₀ := g') (L := L') (m := fun v => if v = Str.ofString "lexer" then some (.ref zz.lx) else m v) (cl := [(Str.ofString "name", c), (Str.ofString "leads", L' + 1)]) ?hclos ?hcell ?hkind ?hnames ?hx ?_)
    case hclos => with_unfolding_all rfl
    case hcell => decide
    case hkind => rfl
    case hnames => decide
    case hx => rfl
    trace "L"
    walk1
    trace "M"
    refine ⟨ld, ode, _, _, pzOf rows r, fun k y => ∃ t, y = .str k t, rfl, rfl, hsys, fF, fN, by k_mem, hde, ?sz2, ?turn2, ?el2, ?fin2⟩
    case sz2 => (rw [sizeLine_eq]; have hl5 : (rowsV rows).length = 5 := by (rw [rowsV, List.length_map, ← List.length_map (f := Row.nm), hrows]; rfl)
                 rw [hl5]; exact Nat.le_of_ble_eq_true rfl)
    case el2 =>
      intro k v I oI C oC D m₂ ys h tk E' hkm hkv hC hx F N
      obtain ⟨t, rfl⟩ := Value.isStrOf_shape hkv
      walk1
      exact ⟨⟨_, rfl⟩, _, _, rfl, F, N⟩
    case turn2 =>
      intro k v I2 oI2 C2 oC2 D2 m₂ ys h tk E' hkm hkv hC hx F N
      obtain ⟨t, rfl⟩ := Value.isStrOf_shape hkv
      rw [hfst] at hkm
      obtain ⟨q, hq, rfl⟩ := List.mem_map.mp hkm
      clear fF fN hkm
      obtain ⟨z1, y1, y2, y3, y4, y5, hz1⟩ := hws r hr
      have W := hws q hq
      have N1 := news_app N (fun p hp => by have q := hz1 p hp; repeat (first | exact q | exact List.mem_append_right _ q | refine List.mem_cons_of_mem _ ?_) : ∀ p ∈ wsLed r.x z1 r.b r.n r.nt (decide (r.k ≤ 1)), p ∈ _)
      have N0 := N
      clear N
      obtain ⟨dx, a1, a2, h1, h2, h3, h4, h5, t1, t2, t3, t4, t5, t6, t7, t8, t9, m1, m2, raw, cv⟩ := z1
      dsimp only [wsLed, List.cons_append, List.nil_append] at N1
      k_steps; repeat' (first | (refine unhold ?_; (first | (k_dflt (refine' kdn_eval (knd := PySem.strKind _ _) ?Fzq ?Nzq ?bzq ?azq ?lzq ?ezq ?nzq ?_; (case Fzq => k_asm); (case Nzq => k_asm); (case bzq => exact Top.nolimit (by k_asm)); (case azq => rfl); (case lzq => rfl); (case ezq => exact List.cons_ne_nil _ _); (case nzq => exact Nat.le_of_ble_eq_true rfl)); intro d' h' o' F' N' l1 lo' hd'; (try k_lt l1); (try (revert d' h' o' F' N' l1 lo' hd'; intros))) | ((with_reducible show wpAny _ _ (subscriptTail _ _ (Value.ref _) (Value.str _ _)) _ _ _); k_dflt (refine kda_item (knd := PySem.strKind _ _) (by k_asm) (by k_mem) (by k_asm) (strKind_is _ _ _ _) (rowsV_at (by assumption) (by assumption)) ?_))); (try k_steps)))
      unfold Hold
      refine wpAny_call ?_
      (rename Fr _ _ _ _ => fF); (rename News _ _ _ _ => fN); (rename Below _ _ _ _ => fB); (rename Frag.In _ _ => fX); (rename Top _ _ _ _ _ _ => fT)
      k_dflt (refine' code_at (less_spec fB fF fX fN fT ?hk (IsWs.mono (hws r hr) ?s1) (IsWs.mono (hws q hq) ?s2) ?h) ?b1 ?b2 ?b3 ?b4 ?b5)
      case b1 => exact rfl
      case b2 => exact rfl
      case b3 => exact rfl
      case b4 => exact Nat.le_of_ble_eq_true rfl
      case b5 => exact Nat.le_of_ble_eq_true rfl
      case hk => exact rfl
      case s1 => (intro p hp; repeat (first | exact hp | exact List.mem_append_right _ hp | refine List.mem_cons_of_mem _ ?_))
      case s2 => (intro p hp; repeat (first | exact hp | exact List.mem_append_right _ hp | refine List.mem_cons_of_mem _ ?_))
      case h =>
        intro h' tk' fF fN
        k_steps
        · exact (pzOf_at hnd hq).symm
        · exact fF
        · exact fun p hp => fN p (by repeat (first | exact hp | refine List.mem_cons_of_mem _ ?_))
    case fin2 =>
      intro D2 h2 tk2 ys F N hp hall
      have hstr : StrsAre ys ((rows.filter (lessR r)).map (·.nm)) := by
        rw [hfst, filter_rows hnd] at hp
        exact strs_of_paired hp
      clear fF fN
      have fF := F
      have fN := N
      clear F N
      k_steps
      unfold Hold
      (rename Fr _ _ _ _ => fF); (rename News _ _ _ _ => fN)
      k_dflt (refine' join_listW (ys := (rows.filter (lessR r)).map (·.nm)) (items := ys.toArray) ⟨_, (fN _ (.head _)).1, rfl, _, rfl⟩ ?hi ?hs ?hw ?_)
      case hi => simpa using hstr
      case hs => decide
      case hw => exact weight_rows hrows _
      intro t' k'
      k_steps
      refine KOpn.add (name_len hrows hr (lessR r)) ?_
      intro t2 k2 hl2
      refine ⟨⟨r, hr, rfl, _, rfl⟩, _, _, rfl, fF, fun p hp => fN p (.tail _ hp)⟩
  case fin =>
    intro D oD h' tk ovs F N hoD hov hV hlt
    clear fF fN
    have fF := F
    have fN := N
    clear F N
    have lD := allLt_of hlt
    clear hlt
    dsimp only [AllLt] at lD
    have tb1 := TO.b1
    k_steps
    unfold Hold
    (rename Fr _ _ _ _ => fF); (rename News _ _ _ _ => fN)
    k_dflt (refine' join_dict (kvs := rowsV rows) ?hh hsys fF fN ?hm hde ?hsz ?hok ?_)
    case hh => exact rfl
    case hm => k_mem
    case hsz => (rw [sizeLine_eq]; have hl5 : (rowsV rows).length = 5 := by (rw [rowsV, List.length_map, ← List.length_map (f := Row.nm), hrows]; rfl)
                 rw [hl5]; exact Nat.le_of_ble_eq_true rfl)
    case hok => (rw [hfst, hrows]; decide)
    rw [hfst, hrows]
    clear fF fN
    intro h2 tk2 t2 fF fN
    have hjoin : Txt.join (Str.ofString "") ([⟨#[97]⟩, ⟨#[98]⟩, ⟨#[99]⟩, ⟨#[100]⟩, ⟨#[101]⟩] : List Str) = Str.ofString "abcde" := by decide
    rw [hjoin]
    k_steps; repeat' (first | (refine unhold ?_; (first | (k_dflt (refine' kdn_eval (knd := PySem.strKind _ _) ?Fzq ?Nzq ?bzq ?azq ?lzq ?ezq ?nzq ?_; (case Fzq => k_asm); (case Nzq => k_asm); (case bzq => exact Top.nolimit (by k_asm)); (case azq => rfl); (case lzq => rfl); (case ezq => exact List.cons_ne_nil _ _); (case nzq => exact Nat.le_of_ble_eq_true rfl)); intro d' h' o' F' N' l1 lo' hd'; (try k_lt l1); (try (revert d' h' o' F' N' l1 lo' hd'; intros))) | ((with_reducible show wpAny _ _ (subscriptTail _ _ (Value.ref _) (Value.str _ _)) _ _ _); k_dflt (refine kda_item (knd := PySem.strKind _ _) (by k_asm) (by k_mem) (by k_asm) (strKind_is _ _ _ _) (rowsV_at (by assumption) (by assumption)) ?_))); (try k_steps)))
    unfold Hold
    refine wpAny_call ?_
    rename_i hh5 oT dT hh4 tk4 dm hh3 om0 lom hdm0 lm ll hh2 l2 hh1 om hdm hh0 gF gN
    (rename Below _ _ _ _ => fB); (rename Frag.In _ _ => fX); (rename Top _ _ _ _ _ _ => fT)
    have O1 : LexOn w zz lf fix ([(ll, W.listOf #[] 0), (dm, om), (D, oD), (ld, ode), (L' + 1 + 1 + 1, oT), (L' + 1 + 1, o2), (L' + 1, c3), (145, tabObj #[])] ++ tail) base := by
      dsimp only [List.cons_append, List.nil_append]
      obtain ⟨m1, m2, m3, m4, m5, m6, m7, m8, m9, -⟩ := lm
      obtain ⟨n0, n1, n2, n3, n4, n5, n6, n7, n8, n9, -⟩ := l2
      obtain ⟨p1, p2, p3, p4, p5, p6, p7, p8, p9, -⟩ := lD
      refine LexOn.cons (LexOn.cons (LexOn.cons (LexOn.cons (LexOn.cons (LexOn.cons (LexOn.cons (LexOn.cons O ?_) ?_) ?_) ?_) ?_) ?_) ?_) ?_
      all_goals exact ⟨(by k_ne), (by k_ne), (by k_ne)⟩
    k_dflt (refine' code_at (push_spec fB gF fX (lits_all [(ll, W.listOf #[] 0), (dm, om), (D, oD), (ld, ode), (L' + 1 + 1 + 1, oT), (L' + 1 + 1, o2), (L' + 1, c3), (145, tabObj #[])] gN) fT ?hk O1 ?hlen ?h) ?b1 ?b2 ?b3 ?b4 ?b5)
    case b1 => exact rfl
    case b2 => exact rfl
    case b3 => exact rfl
    case b4 => exact Nat.le_of_ble_eq_true rfl
    case b5 => exact Nat.le_of_ble_eq_true rfl
    case hk => exact rfl
    case hlen => simp
    case h =>
      clear gF gN
      intro h6 tk6 npb6 fF fN
      dsimp only [List.nil_append] at fN
      replace fN := all_lits [(ll, W.listOf #[] 0), (dm, om), (D, oD), (ld, ode), (L' + 1 + 1 + 1, oT), (L' + 1 + 1, o2), (L' + 1, c3), (145, tabObj #[])] fN
      dsimp only [lexAll, lexLed, List.cons_append, List.nil_append] at fN
      k_steps
      unfold Hold
      refine wpAny_call ?_
      k_dflt (refine' code_at (get_pushed fB fF fX (lits_all [(ll, W.listOf #[] 0), (dm, om), (D, oD), (ld, ode), (L' + 1 + 1 + 1, oT), (L' + 1 + 1, o2), (L' + 1, c3), (145, tabObj #[])] fN) fT ?hk O1 ?hlen ?h) ?b1 ?b2 ?b3 ?b4 ?b5)
      case b1 => exact rfl
      case b2 => exact rfl
      case b3 => exact rfl
      case b4 => exact Nat.le_of_ble_eq_true rfl
      case b5 => exact Nat.le_of_ble_eq_true rfl
      case hk => exact rfl
      case hlen => simp
      case h =>
        intro h7 tk7 npb7 fF fN
        replace fN := all_lits [(ll, W.listOf #[] 0), (dm, om), (D, oD), (ld, ode), (L' + 1 + 1 + 1, oT), (L' + 1 + 1, o2), (L' + 1, c3), (145, tabObj #[])] fN
        dsimp only [lexAll, lexLed, List.cons_append, List.nil_append] at fN
        k_steps
        unfold Hold
        (rename Fr g' _ _ _ => gF); (rename News g' _ _ _ => gN)
        obtain ⟨m1, m2, m3, m4, m5, m6, m7, m8, m9, m10, m11, m12, mAll⟩ := lm
        have hlft := kst_ltOf mAll
        refine' whl_start 0 (while_spec (k := ⟨0, dm, D, ld, L', lf, oD, ode, oT, c3, nl, ln, tln, zz, fix, tail⟩) (rows := rows) (ovs := ovs) (rest := (pre ++ _).drop 9) hb9 ?p9 ?r9 fB X0 fT dT hoD (hov.trans hfst) hV hrows O CH CH2 ?ok lom hE hgood ?h 31 1 Plain.start ⟨[⟨[0, 1, 2, 3, 4], ll, [], [], 0⟩], om, npb7, [], #[], []⟩ _ _ o2 none t2 nl tln ⟨_, _, rfl⟩ rfl (by omega) start_inv gF ?N rfl ?w rfl d2 ?V)
        case p9 => rw [← r4]; rfl
        case r9 => rw [← r4]; rfl
        case ok =>
          refine ⟨hl3, hA, hB, lD.1, m1, Nat.lt_succ_self _, hlft, TO.b2, TO.b5⟩
        case N =>
          refine news_re gN (fun p hp => ?_)
          (try simp only [FC.ledW, lexLed, bookLed, List.map_cons, List.map_nil, List.cons_append, List.nil_append] at hp ⊢)
          revert p; k_extra "x:sub"
        case w =>
          show some (Value.str (Str.ofString "abcde") t2) = some (.str (wdS [0, 1, 2, 3, 4]) t2)
          rw [show Str.ofString "abcde" = wdS [0, 1, 2, 3, 4] by decide +kernel]
        case V =>
          refine ⟨rfl, .nil, ?_, ?_, .inl rfl, ?_, ?_⟩
          · intro e he
            rw [List.mem_singleton.mp he]
            exact .nil
          · show om.IsDictOf _ [(wdS [0, 1, 2, 3, 4], Value.ref ll)]
            rw [show wdS [0, 1, 2, 3, 4] = Str.ofString "abcde" by decide +kernel]
            exact hdm
          · intro p hp
            simp only [bookLed, List.map_cons, List.map_nil, List.nil_append, List.mem_singleton] at hp
            rw [hp]
            exact l2.1
          · simp [bookLed]
        case h =>
          intro st8 h8 tk8 m8 F8 hmv N8 V8
          clear gF gN
          dsimp only at F8 hmv N8 V8 ⊢
          rw [canon1 hmv] at F8
          k_steps
          (rename Fr g' _ _ _ => kF); (rename News g' _ _ _ => kN)
          exact h dm st8 _ _ _ kF kN lom V8
theorem all_cut : ∀ w p loose mean mg mb A₀ base g' L' m cn cs ca L ccd cl outer gd s Q E name params pre dV kV doc pm ct oc an od osl tail fix zz ld lf ode o1 o2 c3 nl npb ln tln rows, Pcut w p loose mean mg mb A₀ base g' L' m cn cs ca L ccd cl outer gd s Q E name params pre dV kV doc pm ct oc an od osl tail fix zz ld lf ode o1 o2 c3 nl npb ln tln rows := by
  have h : Pcut w p loose mean mg mb A₀ base g' L' m cn cs ca L ccd cl outer gd s Q E name params pre dV kV doc pm ct oc an od osl tail fix zz ld lf ode o1 o2 c3 nl npb ln tln rows := at_cut
  delta w p loose mean mg mb A₀ base g' L' m cn cs ca L ccd cl outer gd s Q E name params pre dV kV doc pm ct oc an od osl tail fix zz ld lf ode o1 o2 c3 nl npb ln tln rows at h
  exact fun w p loose mean mg mb A₀ base g' L' m cn cs ca L ccd cl outer gd s Q E name params pre dV kV doc pm ct oc an od osl tail fix zz ld lf ode o1 o2 c3 nl npb ln tln rows => Classical.choose_spec ex_cut h ((w, p, loose, mean, mg, mb, A₀), (base, g', L', m, cn, cs, ca), (L, ccd, cl, outer, gd, s, Q), (E, name, params, pre, dV, kV, doc), (pm, ct, oc, an, od, osl, tail), (fix, zz, ld, lf, ode, o1, o2), (c3, nl, npb, ln, tln, rows))
end K_moves_rest
theorem moves_rest : type_of% (@Subtype.property _ _ K_moves_rest.cut (no_implicit_lambda% K_moves_rest.all_cut)) := no_implicit_lambda% (@Subtype.property _ _ K_moves_rest.cut (no_implicit_lambda% K_moves_rest.all_cut))
end Mine
end
section
theorem Mine.off_W35 : True := by (w_top off; trivial)
open PySem PySem.W PyProof.Rows PySem.Spec PySem.Calls
set_option maxRecDepth 100000
namespace Mine
local macro_rules | `(tactic| walk_at "call ref") => `(tactic| (k_here; (try dsimp only [List.cons_append, List.nil_append, List.append_nil]); refine hold ?_))
def held_W35_1 : List String := "setItem ref str;exec While Name cons nil;WhlRest;eval Dict nil nil;truthy str;subscriptTail;subscriptTail Name Constant str int;subscriptTail Name UnaryOp str int".splitOn ";"
local macro_rules | `(tactic| walk_at $s:str) => if held_W35_1.contains s.getString then `(tactic| (k_here; refine hold ?_)) else Lean.Macro.throwUnsupported
local macro_rules | `(tactic| walk_at "WhlPost") => `(tactic| (dsimp only [WhlPost]))
local macro_rules | `(tactic| walk_at "WhlIf") => `(tactic| (first | refine WhlIf.yes rfl ?_ | (refine WhlIf.no rfl ?_; refine hold ?_)))
/-- the lead of each place -/
noncomputable def Five.at (z : Five) : Nat → Option (List Nat)
  | 0 => some z.a
  | 1 => some z.b
  | 2 => some z.c
  | 3 => some z.d
  | 4 => some z.e
  | _ => none
noncomputable def relZ (z : Five) (i j : Nat) : Bool := match z.at i, z.at j with
  | some l, some r => lessB (scan l).k (scan l).b (scan l).n (scan l).nt (scan r).k (scan r).b (scan r).n (scan r).nt
  | _, _ => false
noncomputable def rowOf (c : Nat) (x : Addr) (l : List Nat) : Row := ⟨sgn c, x, (scan l).k, (scan l).b, (scan l).n, (scan l).nt⟩
noncomputable def rowsOf (z : Five) (xa xb xc xd xe : Addr) : List Row := [rowOf 97 xa z.a, rowOf 98 xb z.b, rowOf 99 xc z.c, rowOf 100 xd z.d, rowOf 101 xe z.e]
theorem relR_rowsOf (z : Five) (xa xb xc xd xe : Addr) : relR (rowsOf z xa xb xc xd xe) = relZ z := by
  funext i j
  unfold relR relZ
  have h : ∀ k, (rowsOf z xa xb xc xd xe)[k]?.map (fun r : Row => (⟨r.k, r.b, r.n, r.nt⟩ : Sc)) = (z.at k).map scan := by
    intro k
    match k with
    | 0 => rfl
    | 1 => rfl
    | 2 => rfl
    | 3 => rfl
    | 4 => rfl
    | k + 5 => rfl
  have hi := h i
  have hj := h j
  cases ha : (rowsOf z xa xb xc xd xe)[i]? <;> cases hb : z.at i <;> rw [ha, hb] at hi <;> simp only [Option.map_some, Option.map_none, reduceCtorEq, Option.some.injEq] at hi
  cases hc : (rowsOf z xa xb xc xd xe)[j]? <;> cases hd : z.at j <;> rw [hc, hd] at hj <;> simp only [Option.map_some, Option.map_none, reduceCtorEq, Option.some.injEq] at hj
  dsimp only
  rw [← hi, ← hj]
  rfl
theorem forall_rows {z : Five} {xa xb xc xd xe : Addr} {P : Row → Prop} (ha : P (rowOf 97 xa z.a)) (hb : P (rowOf 98 xb z.b)) (hc : P (rowOf 99 xc z.c)) (hd : P (rowOf 100 xd z.d)) (he : P (rowOf 101 xe z.e)) : ∀ r ∈ rowsOf z xa xb xc xd xe, P r := by
  intro r hr
  simp only [rowsOf, List.mem_cons, List.not_mem_nil, or_false] at hr
  rcases hr with rfl | rfl | rfl | rfl | rfl <;> assumption
namespace K_moves_spec
set_option maxHeartbeats 2000000 in
noncomputable def cut : (@Subtype Prop fun P => P → ∀ {w : World} {p : Program} {loose : List Str} {mean : ExcName → Option Value} {mg mb : Str → Option Value} {A₀ : Around} {base h₀ : Heap} {L : Addr} {m : Str → Option Value} {cn : Str} {cs : Scope} {ca : Addr} {ccd : Value} {cl : List (Str × Addr)} {outer : List Env} {gd : Option (List Code)} {s : Shared} {R : Result → Shared → Prop} {news : List (Addr × Obj)} {text : Str} {tt : Tok} {z : Five} (B : Below A₀ base outer h₀) (F : Fr h₀ L s.heap m) (X : (Mine.hd.heap_39 w.params).In h₀) (N : News h₀ L s.heap ((138, tabObj #[]) :: (145, tabObj #[]) :: news)) (T : Top p loose mean mg mb h₀) (CH : CodeHd base 142 138) (CH2 : CodeHd base 147 145) (h138 : ∀ p ∈ news, p.1 ≠ 138) (h145 : ∀ p ∈ news, p.1 ≠ 145) (hk : cs.kind = .function) (ht : text.cps.toList = textOf z) (hz : FiveFit z) (hgood : (Plain.run (relZ z) 31 Plain.start).queue = []) (h : ∀ dm st tb h' tk', Fr h₀ L h' m → News h₀ L h' ((138, tabObj tb) :: (145, tabObj st.tb) :: (news ++ ((dm, st.om) :: bookLed st.book))) → (dm == sysModules) = false → WInv w dm (Plain.run (relZ z) 31 Plain.start) st → R (.ok (.ret (.ref dm))) { s with heap := h', toks := tk' }), codeAny (model Challenge.rw_pg0196_01.row.prog w) (At 30 gd (envX cn cs L ca ccd cl :: outer)) (.call (.ref 148) ⟨[.str text tt], []⟩) R s) := by
  refine' mkCut fun hole => ?_
  rotate_left
  focus
  intro w p loose mean mg mb A₀ base h₀ L m cn cs ca ccd cl outer gd s R news text tt z B F X N T CH CH2 h138 h145 hk ht hz hgood h
  have X0 := X
  revert X
  k_fill
  intro X
  k_dflt (refine' code_defC ?k1 ?k2 ?k3 ?k4 ?k5 ?kA ?kF ?kK ?k6 ?k7 ?k8 ?k9 ?kB ?kD ?_ ?c2 ?c3 ?c4; (case kA => exact rfl); (case kF => exact rfl); (case kK => exact hk); (case k1 => k_asm); (case k2 => k_asm); (case k3 => k_asm); (case k4 => k_asm); (case k5 => k_asm); (case k6 => k_is); (case k7 => k_is); (case k8 => ktr_room); (case k9 => exact BindsTo.of_eq rfl); (case kB => exact rfl); (case kD => decide +kernel); (case c2 => exact rfl); (case c3 => exact rfl); (case c4 => exact rfl); k_whole; intro g' L' h' tk' cells' FG' F' N' Y' B' X' T' l1; (try k_lt l1); obtain ⟨o1, o2, o3, hE, d1, d2, d3⟩ := CellsAre.three Y'; subst hE; clear Y'; (try simp only [List.cons_append, List.nil_append] at N'); (try dsimp only); (try k_lift B'); (try k_fold))
  k_steps
  unfold Hold
  refine wpAny_call ?_
  (rename Fr _ _ _ _ => fF); (rename News _ _ _ _ => fN); (rename Below _ _ _ _ => fB); (rename Frag.In _ _ => fX); (rename Top _ _ _ _ _ _ => fT)
  have l3 := ltN l1.1
  have l4 := ltN l1.2.1
  have l5 := kst_ltOf l1.2.2
  k_dflt (refine' code_at (lexer_spec (news := (L' + 1 + 1 + 1, o1) :: (L' + 1 + 1, o2) :: (L' + 1, o3) :: (145, tabObj #[]) :: news) fB fF fX ?N fT CH ?h138 ?hk ?hsz ?h) ?b1 ?b2 ?b3 ?b4 ?b5)
  case b1 => exact rfl
  case b2 => exact rfl
  case b3 => exact rfl
  case b4 => exact Nat.le_of_ble_eq_true rfl
  case b5 => exact Nat.le_of_ble_eq_true rfl
  case hk => exact rfl
  case N => exact news_re fN (fun p hp => by revert p; k_extra "x:sub")
  case h138 => exact List.forall_mem_cons.mpr ⟨(by k_ne), List.forall_mem_cons.mpr ⟨(by k_ne), List.forall_mem_cons.mpr ⟨(by k_ne), List.forall_mem_cons.mpr ⟨(by k_ne), h138⟩⟩⟩⟩
  case hsz => (have e := textOf_len hz; rw [← ht, Array.length_toList] at e; show text.cps.size ≤ 16777216; omega)
  case h =>
    clear fF fN
    intro zz lf fix ys nl npb tln foc fod ffd fsl tb h1 tk1 fF fN hc1 NX hfn off hfr1 hfr2
    obtain ⟨newt, en⟩ : ∃ newt, newt = (138, tabObj tb) :: news := ⟨_, rfl⟩
    replace fN := news_re fN (b := (L' + 1 + 1 + 1, o1) :: (L' + 1 + 1, o2) :: (L' + 1, o3) :: (145, tabObj #[]) :: lexAll zz lf ys nl 1 tln [] npb fix newt) (fun p hp => by
      rw [en] at hp
      (try simp only [lexAll, lexLed, List.cons_append, List.nil_append] at hp ⊢)
      revert p; k_extra "x:sub")
    have hom : ∀ p ∈ fix ++ ((L' + 1 + 1 + 1, o1) :: (L' + 1 + 1, o2) :: (L' + 1, o3) :: (145, tabObj #[]) :: newt), p ∈ fix ++ ((138, tabObj tb) :: (L' + 1 + 1 + 1, o1) :: (L' + 1 + 1, o2) :: (L' + 1, o3) :: (145, tabObj #[]) :: news) := fun p hp => by
      rw [en] at hp
      revert p; k_extra "x:sub"
    replace off : LexOff zz lf (fix ++ ((L' + 1 + 1 + 1, o1) :: (L' + 1 + 1, o2) :: (L' + 1, o3) :: (145, tabObj #[]) :: newt)) := { off with r1 := fun p hp => off.r1 p (hom p hp), r2 := fun p hp => off.r2 p (hom p hp), r3 := fun p hp => off.r3 p (hom p hp) }
    clear hom
    have l5 : ∀ p ∈ newt, @LT.lt Nat _ p.1 L' := fun p hp => by
      rw [en] at hp
      rcases List.mem_cons.mp hp with rfl | hp
      · exact l3
      · exact ltN (l5 p hp)
    have h145 : ∀ p ∈ newt, p.1 ≠ (145 : Addr) := fun p hp => by
      rw [en] at hp
      rcases List.mem_cons.mp hp with rfl | hp
      · exact neN (Nat.ne_of_lt (Nat.le_of_ble_eq_true rfl))
      · exact h145 p hp
    rename_i i_1 i_2
    revert B F N T CH CH2 h138 i_1 hk ht hz hgood h X0 X FG' fB fX fT l1 d1 d2 d3 l3 l4 i_2 fF hc1 NX hfn hfr1 hfr2 en fN off l5 h145
    revert w p loose mean mg mb A₀ base h₀ L m cn cs ca ccd cl outer gd s R news text tt z g' L' h' tk' o1 o2 o3 zz lf fix ys nl npb tln foc fod ffd fsl tb h1 tk1 newt
    exact no_implicit_lambda% hole.get
noncomputable section
noncomputable def Pcut : (World) → (Program) → (List Str) → (ExcName → Option Value) → (Str → Option Value) → (Str → Option Value) → (Around) → (Heap) → (Heap) → (Addr) → (Str → Option Value) → (Str) → (Scope) → (Addr) → (Value) → (List (Str × Addr)) → (List Env) → (Option (List Code)) → (Shared) → (Result → Shared → Prop) → (List (Addr × Obj)) → (Str) → (Tok) → (Five) → (Heap) → (Addr) → (Heap) → (Nat) → (Obj) → (Obj) → (Obj) → (LexH) → (Addr) → (List (Addr × Obj)) → (List Value) → (Nat) → (Nat) → (Tok) → (Value) → (Option Addr) → (FuncData) → (Array (Option Value)) → (Array Value) → (Heap) → (Nat) → (List (Addr × Obj)) → Prop := (@id (∀ {Rcut : (World) → (Program) → (List Str) → (ExcName → Option Value) → (Str → Option Value) → (Str → Option Value) → (Around) → (Heap) → (Heap) → (Addr) → (Str → Option Value) → (Str) → (Scope) → (Addr) → (Value) → (List (Str × Addr)) → (List Env) → (Option (List Code)) → (Shared) → (Result → Shared → Prop) → (List (Addr × Obj)) → (Str) → (Tok) → (Five) → (Heap) → (Addr) → (Heap) → (Nat) → (Obj) → (Obj) → (Obj) → (LexH) → (Addr) → (List (Addr × Obj)) → (List Value) → (Nat) → (Nat) → (Tok) → (Value) → (Option Addr) → (FuncData) → (Array (Option Value)) → (Array Value) → (Heap) → (Nat) → (List (Addr × Obj)) → Prop}, cut.1 = (∀ w p loose mean mg mb A₀ base h₀ L m cn cs ca ccd cl outer gd s R news text tt z g' L' h' tk' o1 o2 o3 zz lf fix ys nl npb tln foc fod ffd fsl tb h1 tk1 newt, Rcut w p loose mean mg mb A₀ base h₀ L m cn cs ca ccd cl outer gd s R news text tt z g' L' h' tk' o1 o2 o3 zz lf fix ys nl npb tln foc fod ffd fsl tb h1 tk1 newt) → _) fun {Rcut} _ => Rcut) rfl
noncomputable def Tcut : Type := (World × Program × (List Str) × (ExcName → Option Value) × (Str → Option Value) × (Str → Option Value) × Around) × (Heap × Heap × Addr × (Str → Option Value) × Str × Scope × Addr) × (Value × (List (Str × Addr)) × (List Env) × (Option (List Code)) × Shared × (Result → Shared → Prop) × (List (Addr × Obj))) × (Str × Tok × Five × Heap × Addr × Heap × Nat) × (Obj × Obj × Obj × LexH × Addr × (List (Addr × Obj)) × (List Value)) × (Nat × Nat × Tok × Value × (Option Addr) × FuncData × (Array (Option Value))) × ((Array Value) × Heap × Nat × (List (Addr × Obj)))
noncomputable def Qcut (x : Tcut) : Prop := Pcut x.1.1 x.1.2.1 x.1.2.2.1 x.1.2.2.2.1 x.1.2.2.2.2.1 x.1.2.2.2.2.2.1 x.1.2.2.2.2.2.2 x.2.1.1 x.2.1.2.1 x.2.1.2.2.1 x.2.1.2.2.2.1 x.2.1.2.2.2.2.1 x.2.1.2.2.2.2.2.1 x.2.1.2.2.2.2.2.2 x.2.2.1.1 x.2.2.1.2.1 x.2.2.1.2.2.1 x.2.2.1.2.2.2.1 x.2.2.1.2.2.2.2.1 x.2.2.1.2.2.2.2.2.1 x.2.2.1.2.2.2.2.2.2 x.2.2.2.1.1 x.2.2.2.1.2.1 x.2.2.2.1.2.2.1 x.2.2.2.1.2.2.2.1 x.2.2.2.1.2.2.2.2.1 x.2.2.2.1.2.2.2.2.2.1 x.2.2.2.1.2.2.2.2.2.2 x.2.2.2.2.1.1 x.2.2.2.2.1.2.1 x.2.2.2.2.1.2.2.1 x.2.2.2.2.1.2.2.2.1 x.2.2.2.2.1.2.2.2.2.1 x.2.2.2.2.1.2.2.2.2.2.1 x.2.2.2.2.1.2.2.2.2.2.2 x.2.2.2.2.2.1.1 x.2.2.2.2.2.1.2.1 x.2.2.2.2.2.1.2.2.1 x.2.2.2.2.2.1.2.2.2.1 x.2.2.2.2.2.1.2.2.2.2.1 x.2.2.2.2.2.1.2.2.2.2.2.1 x.2.2.2.2.2.1.2.2.2.2.2.2 x.2.2.2.2.2.2.1 x.2.2.2.2.2.2.2.1 x.2.2.2.2.2.2.2.2.1 x.2.2.2.2.2.2.2.2.2
theorem ex_cut : ∃ x : Tcut, Qcut x → ∀ y, Qcut y := by
  haveI : Nonempty Five := by refine ⟨?_⟩; repeat' (first | exact default | constructor)
  haveI : Nonempty LexH := by refine ⟨?_⟩; repeat' (first | exact default | constructor)
  haveI := neW; haveI := neA; haveI := neS
  haveI : Nonempty Tcut := by unfold Tcut; set_option synthInstance.maxSize 2000 in infer_instance
  exact henk1 Qcut
noncomputable def Ccut : Tcut := Classical.choose ex_cut
@[irreducible] noncomputable def w : World := Ccut.1.1
@[irreducible] noncomputable def p : Program := Ccut.1.2.1
@[irreducible] noncomputable def loose : List Str := Ccut.1.2.2.1
@[irreducible] noncomputable def mean : ExcName → Option Value := Ccut.1.2.2.2.1
@[irreducible] noncomputable def mg : Str → Option Value := Ccut.1.2.2.2.2.1
@[irreducible] noncomputable def mb : Str → Option Value := Ccut.1.2.2.2.2.2.1
@[irreducible] noncomputable def A₀ : Around := Ccut.1.2.2.2.2.2.2
@[irreducible] noncomputable def base : Heap := Ccut.2.1.1
@[irreducible] noncomputable def h₀ : Heap := Ccut.2.1.2.1
@[irreducible] noncomputable def L : Addr := Ccut.2.1.2.2.1
@[irreducible] noncomputable def m : Str → Option Value := Ccut.2.1.2.2.2.1
@[irreducible] noncomputable def cn : Str := Ccut.2.1.2.2.2.2.1
@[irreducible] noncomputable def cs : Scope := Ccut.2.1.2.2.2.2.2.1
@[irreducible] noncomputable def ca : Addr := Ccut.2.1.2.2.2.2.2.2
@[irreducible] noncomputable def ccd : Value := Ccut.2.2.1.1
@[irreducible] noncomputable def cl : List (Str × Addr) := Ccut.2.2.1.2.1
@[irreducible] noncomputable def outer : List Env := Ccut.2.2.1.2.2.1
@[irreducible] noncomputable def gd : Option (List Code) := Ccut.2.2.1.2.2.2.1
@[irreducible] noncomputable def s : Shared := Ccut.2.2.1.2.2.2.2.1
@[irreducible] noncomputable def R : Result → Shared → Prop := Ccut.2.2.1.2.2.2.2.2.1
@[irreducible] noncomputable def news : List (Addr × Obj) := Ccut.2.2.1.2.2.2.2.2.2
@[irreducible] noncomputable def text : Str := Ccut.2.2.2.1.1
@[irreducible] noncomputable def tt : Tok := Ccut.2.2.2.1.2.1
@[irreducible] noncomputable def z : Five := Ccut.2.2.2.1.2.2.1
@[irreducible] noncomputable def g' : Heap := Ccut.2.2.2.1.2.2.2.1
@[irreducible] noncomputable def L' : Addr := Ccut.2.2.2.1.2.2.2.2.1
@[irreducible] noncomputable def h' : Heap := Ccut.2.2.2.1.2.2.2.2.2.1
@[irreducible] noncomputable def tk' : Nat := Ccut.2.2.2.1.2.2.2.2.2.2
@[irreducible] noncomputable def o1 : Obj := Ccut.2.2.2.2.1.1
@[irreducible] noncomputable def o2 : Obj := Ccut.2.2.2.2.1.2.1
@[irreducible] noncomputable def o3 : Obj := Ccut.2.2.2.2.1.2.2.1
@[irreducible] noncomputable def zz : LexH := Ccut.2.2.2.2.1.2.2.2.1
@[irreducible] noncomputable def lf : Addr := Ccut.2.2.2.2.1.2.2.2.2.1
@[irreducible] noncomputable def fix : List (Addr × Obj) := Ccut.2.2.2.2.1.2.2.2.2.2.1
@[irreducible] noncomputable def ys : List Value := Ccut.2.2.2.2.1.2.2.2.2.2.2
@[irreducible] noncomputable def nl : Nat := Ccut.2.2.2.2.2.1.1
@[irreducible] noncomputable def npb : Nat := Ccut.2.2.2.2.2.1.2.1
@[irreducible] noncomputable def tln : Tok := Ccut.2.2.2.2.2.1.2.2.1
@[irreducible] noncomputable def foc : Value := Ccut.2.2.2.2.2.1.2.2.2.1
@[irreducible] noncomputable def fod : Option Addr := Ccut.2.2.2.2.2.1.2.2.2.2.1
@[irreducible] noncomputable def ffd : FuncData := Ccut.2.2.2.2.2.1.2.2.2.2.2.1
@[irreducible] noncomputable def fsl : Array (Option Value) := Ccut.2.2.2.2.2.1.2.2.2.2.2.2
@[irreducible] noncomputable def tb : Array Value := Ccut.2.2.2.2.2.2.1
@[irreducible] noncomputable def h1 : Heap := Ccut.2.2.2.2.2.2.2.1
@[irreducible] noncomputable def tk1 : Nat := Ccut.2.2.2.2.2.2.2.2.1
@[irreducible] noncomputable def newt : List (Addr × Obj) := Ccut.2.2.2.2.2.2.2.2.2
end
set_option maxHeartbeats 2000000 in
theorem at_cut : Pcut w p loose mean mg mb A₀ base h₀ L m cn cs ca ccd cl outer gd s R news text tt z g' L' h' tk' o1 o2 o3 zz lf fix ys nl npb tln foc fod ffd fsl tb h1 tk1 newt := by
  intro B F N T CH CH2 h138 i_1 hk ht hz hgood h X0 X FG' fB fX fT l1 d1 d2 d3 l3 l4 i_2 fF hc1 NX hfn hfr1 hfr2 en fN off l5 h145
  have fN1 := fN
  clear fN
  dsimp only [lexAll, lexLed, List.cons_append, List.nil_append] at fN1
  dsimp only
  -- what is known of places
  have hA1 := hfr1 _ (.head _)
  have hA2 := hfr1 _ (.tail _ (.head _))
  have hA3 := hfr1 _ (.tail _ (.tail _ (.head _)))
  have hA4 := hfr1 _ (.tail _ (.tail _ (.tail _ (.head _))))
  simp only [List.forall_mem_cons, List.not_mem_nil, false_imp_iff, implies_true, and_true] at hA1 hA2 hA3 hA4
  have hB1 : ∀ p ∈ fix ++ newt, p.1 ≠ L' + 1 + 1 + 1 := mem3 (fun p hp => neN (Nat.ne_of_gt (hfr2 _ (.head _) p hp))) (fun p hp => neN (by have := ltN (l5 p hp); omega))
  have hB2 : ∀ p ∈ fix ++ newt, p.1 ≠ L' + 1 + 1 := mem3 (fun p hp => neN (Nat.ne_of_gt (hfr2 _ (.tail _ (.head _)) p hp))) (fun p hp => neN (by have := ltN (l5 p hp); omega))
  have hB3 : ∀ p ∈ fix ++ newt, p.1 ≠ L' + 1 := mem3 (fun p hp => neN (Nat.ne_of_gt (hfr2 _ (.tail _ (.tail _ (.head _))) p hp))) (fun p hp => neN (by have := ltN (l5 p hp); omega))
  k_steps
  unfold Hold
  (rename Fr _ _ _ _ => fF); (rename News _ _ _ _ => fN)
  k_dflt (refine' newDict_K fF fN fT.nolimit ?_)
  clear fF fN
  intro ld h2 od fF fN lld hsys hd0 hfp0 hdi hfi
  clear hfp0 hdi hfi
  have hB4 : ∀ p ∈ fix ++ newt, p.1 ≠ ld := fun p hp => Nat.ne_of_lt (lld p (by (repeat (first | exact hp | refine List.mem_cons_of_mem _ ?_))))
  replace lld := allLt_of lld
  simp only [AllLt] at lld
  k_steps
  unfold Hold
  refine wpAny_call ?_
  (rename Fr _ _ _ _ => fF); (rename News _ _ _ _ => fN)
  obtain ⟨c3, hc3c, fN2⟩ : ∃ c3 : Obj, c3.data = .cell (some (.ref ld)) ∧ News g' L' _ ((ld, od) :: (L' + 1 + 1 + 1, o1) :: (L' + 1 + 1, o2) :: (L' + 1, c3) :: (145, tabObj #[]) :: lexAll zz lf ys nl 1 tln [] npb fix newt) := ⟨_, by assumption, fN⟩
  clear fN
  have l145 : ∀ p ∈ fix, p.1 ≠ (145 : Addr) := fun p hp => Nat.ne_of_gt (hfr2 _ (.tail _ (.tail _ (.tail _ (.head _)))) p hp)
  have TO : TailOff L' ld lf zz fix newt := ⟨hB1, hB2, hB3, hB4, mem3 l145 h145, fun p hp => off.r1 p (by grind), fun p hp => off.r2 p (by grind), fun p hp => off.r3 p (by grind)⟩
  have hvl : ys.length ≤ 10000 := by
    have e1 := hc1.length
    have e := textOf_len hz
    rw [ht] at e1
    omega
  rw [ht] at hc1
  unfold textOf at hc1
  have mkO := fun {rest : List (Addr × Obj)} (TO : TailOff L' ld lf zz fix rest) od => LexOn.mk5 NX ⟨foc, fod, ffd, fsl, hfn⟩ CH off TO hA1.1 hA1.2.2.1 hA1.2.2.2.2.2 (ltN lld.2.2.2.2.1) (ltN lld.2.2.2.2.2.1) (ltN lld.2.2.2.2.2.2.1) l4 od o1 o2 c3 (tabObj #[])
  have la8 := hz.a.2.2.2.2.2.1
  have lb8 := hz.b.2.2.2.2.2.1
  have lc8 := hz.c.2.2.2.2.2.1
  have ld8 := hz.d.2.2.2.2.2.1
  have le8 := hz.e.2.2.2.2.2.1
  -- token a
  k_dflt (refine' code_at (get_read fB fF fX (lits_all [(ld, od), (L' + 1 + 1 + 1, o1), (L' + 1 + 1, o2), (L' + 1, c3), (145, tabObj #[])] fN2) fT ?hk (mkO TO od) hvl hc1 ?hn0 ?hl8 ?htok ?h) ?b1 ?b2 ?b3 ?b4 ?b5)
  case b1 => exact rfl
  case b2 => exact rfl
  case b3 => exact rfl
  case b4 => exact Nat.le_of_ble_eq_true rfl
  case b5 => exact Nat.le_of_ble_eq_true rfl
  case hk => exact rfl
  case hn0 => simp
  case hl8 => (simp; omega)
  case htok => exact lead_tok hz.a (by simp)
  case h =>
    clear fF fN2 hvl hc1
    intro h3 tk3 tt3 vs3 nl3 ln3 tln3 fF fN hc3 hvl
    replace fN := all_lits [(ld, od), (L' + 1 + 1 + 1, o1), (L' + 1 + 1, o2), (L' + 1, c3), (145, tabObj #[])] fN
    dsimp only [lexAll, lexLed, List.cons_append, List.nil_append] at fN
    dsimp only
    k_steps
    unfold Hold
    refine whl_start 0 (whl_turn (k := 0) (by passes_own) ?_)
    k_steps; repeat' (first | (refine unhold ?_; (first | ((with_reducible show wpAny _ _ (truthy (Value.str _ _)) _ _ _); with_reducible (refine' truthy_strK ?hlzq ?hbzq ?_); (case hlzq => k_dflt (first | exact tok_len _ (by assumption) | decide +kernel)); (case hbzq => k_dflt (first | exact tok_truthy _ _ | (refine (?_ : _ = false); decide +kernel) | (refine (?_ : _ = true); decide +kernel)))) | ((with_reducible show wpAny _ _ (subscriptTail _ _ (Value.str _ _) (Value.int _ _)) _ _ _); (first | with_reducible refine' str_last (by decide) ?_ | k_dflt (refine' str_last (by decide) ?_)); intro t' tk'; (try (revert t' tk'; intros)))); (try k_steps)))
    unfold Hold
    (rename Fr _ _ _ _ => fF); (rename News _ _ _ _ => fN)
    k_dflt (refine' wp_at (init_spec (lead := z.a) (nm := 97) fB fF fX fN fT ?hk hz.a.2.1 hz.a.2.2.1 hz.a.2.2.2.1 hz.a.2.2.2.2.1 rfl hz.a.1 (by decide) (by decide) ?h) ?b1 ?b2 ?b3 ?b4 ?b5)
    case b1 => exact rfl
    case b2 => exact rfl
    case b3 => exact rfl
    case b4 => exact Nat.le_of_ble_eq_true rfl
    case b5 => exact Nat.le_of_ble_eq_true rfl
    case hk => exact rfl
    case h =>
      clear fF fN
      intro xa h4 tk4 fra fF fN hfra hwa
      have TOa := TO.more hfra (by k_memK) (by k_memK) (by k_memK) (by k_memK) (by k_memK) (by k_memK) (by k_memK) (by k_memK)
      have fN1 := news_tail fN
      clear fN
      k_steps; repeat' (first | (refine unhold ?_; (first | ((with_reducible show wpAny _ _ (truthy (Value.str _ _)) _ _ _); with_reducible (refine' truthy_strK ?hlzq ?hbzq ?_); (case hlzq => k_dflt (first | exact tok_len _ (by assumption) | decide +kernel)); (case hbzq => k_dflt (first | exact tok_truthy _ _ | (refine (?_ : _ = false); decide +kernel) | (refine (?_ : _ = true); decide +kernel)))) | ((with_reducible show wpAny _ _ (subscriptTail _ _ (Value.str _ _) (Value.int _ _)) _ _ _); (first | with_reducible refine' str_last (by decide) ?_ | k_dflt (refine' str_last (by decide) ?_)); intro t' tk'; (try (revert t' tk'; intros)))); (try k_steps)))
      unfold Hold
      (rename Fr _ _ _ _ => fF); (rename News _ _ _ _ => fN)
      have hua := TOa.b4
      k_dflt (refine' kda_set (knd := PySem.strKind _ _) (k := ⟨#[97]⟩) fF fN ?U hd0 (strKind_is _ _ _ _) ?z ?_)
      case U => k_updF
      case z => (rw [sizeLine_eq]; exact Nat.le_of_ble_eq_true (by with_unfolding_all rfl))
      clear fF fN
      intro h5 oda fF fN hda
      k_steps
      unfold Hold
      refine wpAny_call ?_
      (rename Fr _ _ _ _ => fF); (rename News _ _ _ _ => fN)
      clear hua
      -- token b
      k_dflt (refine' code_at (get_read fB fF fX (lits_all [(ld, oda), (L' + 1 + 1 + 1, o1), (L' + 1 + 1, o2), (L' + 1, c3), (145, tabObj #[])] fN) fT ?hk (mkO TOa oda) hvl hc3 ?hn0 ?hl8 ?htok ?h) ?b1 ?b2 ?b3 ?b4 ?b5)
      case b1 => exact rfl
      case b2 => exact rfl
      case b3 => exact rfl
      case b4 => exact Nat.le_of_ble_eq_true rfl
      case b5 => exact Nat.le_of_ble_eq_true rfl
      case hk => exact rfl
      case hn0 => simp
      case hl8 => (simp; omega)
      case htok => exact lead_tok hz.b (by simp)
      case h =>
        clear fF fN hvl hc3
        intro h3 tk3 tt3 vs3 nl3 ln3 tln3 fF fN hc3 hvl
        replace fN := all_lits [(ld, oda), (L' + 1 + 1 + 1, o1), (L' + 1 + 1, o2), (L' + 1, c3), (145, tabObj #[])] fN
        dsimp only [lexAll, lexLed, List.cons_append, List.nil_append] at fN
        dsimp only
        k_steps
        unfold Hold
        refine whl_turn (k := 0) (by passes_own) ?_
        k_steps; repeat' (first | (refine unhold ?_; (first | ((with_reducible show wpAny _ _ (truthy (Value.str _ _)) _ _ _); with_reducible (refine' truthy_strK ?hlzq ?hbzq ?_); (case hlzq => k_dflt (first | exact tok_len _ (by assumption) | decide +kernel)); (case hbzq => k_dflt (first | exact tok_truthy _ _ | (refine (?_ : _ = false); decide +kernel) | (refine (?_ : _ = true); decide +kernel)))) | ((with_reducible show wpAny _ _ (subscriptTail _ _ (Value.str _ _) (Value.int _ _)) _ _ _); (first | with_reducible refine' str_last (by decide) ?_ | k_dflt (refine' str_last (by decide) ?_)); intro t' tk'; (try (revert t' tk'; intros)))); (try k_steps)))
        unfold Hold
        (rename Fr _ _ _ _ => fF); (rename News _ _ _ _ => fN)
        k_dflt (refine' wp_at (init_spec (lead := z.b) (nm := 98) fB fF fX fN fT ?hk hz.b.2.1 hz.b.2.2.1 hz.b.2.2.2.1 hz.b.2.2.2.2.1 rfl hz.b.1 (by decide) (by decide) ?h) ?b1 ?b2 ?b3 ?b4 ?b5)
        case b1 => exact rfl
        case b2 => exact rfl
        case b3 => exact rfl
        case b4 => exact Nat.le_of_ble_eq_true rfl
        case b5 => exact Nat.le_of_ble_eq_true rfl
        case hk => exact rfl
        case h =>
          clear fF fN
          intro xb h4 tk4 frb fF fN hfrb hwb
          have TOb := TOa.more hfrb (by k_memK) (by k_memK) (by k_memK) (by k_memK) (by k_memK) (by k_memK) (by k_memK) (by k_memK)
          have fN1 := news_tail fN
          clear fN
          k_steps; repeat' (first | (refine unhold ?_; (first | ((with_reducible show wpAny _ _ (truthy (Value.str _ _)) _ _ _); with_reducible (refine' truthy_strK ?hlzq ?hbzq ?_); (case hlzq => k_dflt (first | exact tok_len _ (by assumption) | decide +kernel)); (case hbzq => k_dflt (first | exact tok_truthy _ _ | (refine (?_ : _ = false); decide +kernel) | (refine (?_ : _ = true); decide +kernel)))) | ((with_reducible show wpAny _ _ (subscriptTail _ _ (Value.str _ _) (Value.int _ _)) _ _ _); (first | with_reducible refine' str_last (by decide) ?_ | k_dflt (refine' str_last (by decide) ?_)); intro t' tk'; (try (revert t' tk'; intros)))); (try k_steps)))
          unfold Hold
          (rename Fr _ _ _ _ => fF); (rename News _ _ _ _ => fN)
          have hub := TOb.b4
          k_dflt (refine' kda_set (knd := PySem.strKind _ _) (k := ⟨#[98]⟩) fF fN ?U hda (strKind_is _ _ _ _) ?z ?_)
          case U => k_updF
          case z => (rw [sizeLine_eq]; exact Nat.le_of_ble_eq_true (by with_unfolding_all rfl))
          clear fF fN
          intro h5 odb fF fN hdb
          k_steps
          unfold Hold
          refine wpAny_call ?_
          (rename Fr _ _ _ _ => fF); (rename News _ _ _ _ => fN)
          clear hub
          -- token c
          k_dflt (refine' code_at (get_read fB fF fX (lits_all [(ld, odb), (L' + 1 + 1 + 1, o1), (L' + 1 + 1, o2), (L' + 1, c3), (145, tabObj #[])] fN) fT ?hk (mkO TOb odb) hvl hc3 ?hn0 ?hl8 ?htok ?h) ?b1 ?b2 ?b3 ?b4 ?b5)
          case b1 => exact rfl
          case b2 => exact rfl
          case b3 => exact rfl
          case b4 => exact Nat.le_of_ble_eq_true rfl
          case b5 => exact Nat.le_of_ble_eq_true rfl
          case hk => exact rfl
          case hn0 => simp
          case hl8 => (simp; omega)
          case htok => exact lead_tok hz.c (by simp)
          case h =>
            clear fF fN hvl hc3
            intro h3 tk3 tt3 vs3 nl3 ln3 tln3 fF fN hc3 hvl
            replace fN := all_lits [(ld, odb), (L' + 1 + 1 + 1, o1), (L' + 1 + 1, o2), (L' + 1, c3), (145, tabObj #[])] fN
            dsimp only [lexAll, lexLed, List.cons_append, List.nil_append] at fN
            dsimp only
            k_steps
            unfold Hold
            refine whl_turn (k := 0) (by passes_own) ?_
            k_steps; repeat' (first | (refine unhold ?_; (first | ((with_reducible show wpAny _ _ (truthy (Value.str _ _)) _ _ _); with_reducible (refine' truthy_strK ?hlzq ?hbzq ?_); (case hlzq => k_dflt (first | exact tok_len _ (by assumption) | decide +kernel)); (case hbzq => k_dflt (first | exact tok_truthy _ _ | (refine (?_ : _ = false); decide +kernel) | (refine (?_ : _ = true); decide +kernel)))) | ((with_reducible show wpAny _ _ (subscriptTail _ _ (Value.str _ _) (Value.int _ _)) _ _ _); (first | with_reducible refine' str_last (by decide) ?_ | k_dflt (refine' str_last (by decide) ?_)); intro t' tk'; (try (revert t' tk'; intros)))); (try k_steps)))
            unfold Hold
            (rename Fr _ _ _ _ => fF); (rename News _ _ _ _ => fN)
            k_dflt (refine' wp_at (init_spec (lead := z.c) (nm := 99) fB fF fX fN fT ?hk hz.c.2.1 hz.c.2.2.1 hz.c.2.2.2.1 hz.c.2.2.2.2.1 rfl hz.c.1 (by decide) (by decide) ?h) ?b1 ?b2 ?b3 ?b4 ?b5)
            case b1 => exact rfl
            case b2 => exact rfl
            case b3 => exact rfl
            case b4 => exact Nat.le_of_ble_eq_true rfl
            case b5 => exact Nat.le_of_ble_eq_true rfl
            case hk => exact rfl
            case h =>
              clear fF fN
              intro xc h4 tk4 frc fF fN hfrc hwc
              have TOc := TOb.more hfrc (by k_memK) (by k_memK) (by k_memK) (by k_memK) (by k_memK) (by k_memK) (by k_memK) (by k_memK)
              have fN1 := news_tail fN
              clear fN
              k_steps; repeat' (first | (refine unhold ?_; (first | ((with_reducible show wpAny _ _ (truthy (Value.str _ _)) _ _ _); with_reducible (refine' truthy_strK ?hlzq ?hbzq ?_); (case hlzq => k_dflt (first | exact tok_len _ (by assumption) | decide +kernel)); (case hbzq => k_dflt (first | exact tok_truthy _ _ | (refine (?_ : _ = false); decide +kernel) | (refine (?_ : _ = true); decide +kernel)))) | ((with_reducible show wpAny _ _ (subscriptTail _ _ (Value.str _ _) (Value.int _ _)) _ _ _); (first | with_reducible refine' str_last (by decide) ?_ | k_dflt (refine' str_last (by decide) ?_)); intro t' tk'; (try (revert t' tk'; intros)))); (try k_steps)))
              unfold Hold
              (rename Fr _ _ _ _ => fF); (rename News _ _ _ _ => fN)
              have huc := TOc.b4
              k_dflt (refine' kda_set (knd := PySem.strKind _ _) (k := ⟨#[99]⟩) fF fN ?U hdb (strKind_is _ _ _ _) ?z ?_)
              case U => k_updF
              case z => (rw [sizeLine_eq]; exact Nat.le_of_ble_eq_true (by with_unfolding_all rfl))
              clear fF fN
              intro h5 odc fF fN hdc
              k_steps
              unfold Hold
              refine wpAny_call ?_
              (rename Fr _ _ _ _ => fF); (rename News _ _ _ _ => fN)
              clear huc
              -- token d
              k_dflt (refine' code_at (get_read fB fF fX (lits_all [(ld, odc), (L' + 1 + 1 + 1, o1), (L' + 1 + 1, o2), (L' + 1, c3), (145, tabObj #[])] fN) fT ?hk (mkO TOc odc) hvl hc3 ?hn0 ?hl8 ?htok ?h) ?b1 ?b2 ?b3 ?b4 ?b5)
              case b1 => exact rfl
              case b2 => exact rfl
              case b3 => exact rfl
              case b4 => exact Nat.le_of_ble_eq_true rfl
              case b5 => exact Nat.le_of_ble_eq_true rfl
              case hk => exact rfl
              case hn0 => simp
              case hl8 => (simp; omega)
              case htok => exact lead_tok hz.d (by simp)
              case h =>
                clear fF fN hvl hc3
                intro h3 tk3 tt3 vs3 nl3 ln3 tln3 fF fN hc3 hvl
                replace fN := all_lits [(ld, odc), (L' + 1 + 1 + 1, o1), (L' + 1 + 1, o2), (L' + 1, c3), (145, tabObj #[])] fN
                dsimp only [lexAll, lexLed, List.cons_append, List.nil_append] at fN
                dsimp only
                k_steps
                unfold Hold
                refine whl_turn (k := 0) (by passes_own) ?_
                k_steps; repeat' (first | (refine unhold ?_; (first | ((with_reducible show wpAny _ _ (truthy (Value.str _ _)) _ _ _); with_reducible (refine' truthy_strK ?hlzq ?hbzq ?_); (case hlzq => k_dflt (first | exact tok_len _ (by assumption) | decide +kernel)); (case hbzq => k_dflt (first | exact tok_truthy _ _ | (refine (?_ : _ = false); decide +kernel) | (refine (?_ : _ = true); decide +kernel)))) | ((with_reducible show wpAny _ _ (subscriptTail _ _ (Value.str _ _) (Value.int _ _)) _ _ _); (first | with_reducible refine' str_last (by decide) ?_ | k_dflt (refine' str_last (by decide) ?_)); intro t' tk'; (try (revert t' tk'; intros)))); (try k_steps)))
                unfold Hold
                (rename Fr _ _ _ _ => fF); (rename News _ _ _ _ => fN)
                k_dflt (refine' wp_at (init_spec (lead := z.d) (nm := 100) fB fF fX fN fT ?hk hz.d.2.1 hz.d.2.2.1 hz.d.2.2.2.1 hz.d.2.2.2.2.1 rfl hz.d.1 (by decide) (by decide) ?h) ?b1 ?b2 ?b3 ?b4 ?b5)
                case b1 => exact rfl
                case b2 => exact rfl
                case b3 => exact rfl
                case b4 => exact Nat.le_of_ble_eq_true rfl
                case b5 => exact Nat.le_of_ble_eq_true rfl
                case hk => exact rfl
                case h =>
                  clear fF fN
                  intro xd h4 tk4 frd fF fN hfrd hwd
                  have TOd := TOc.more hfrd (by k_memK) (by k_memK) (by k_memK) (by k_memK) (by k_memK) (by k_memK) (by k_memK) (by k_memK)
                  have fN1 := news_tail fN
                  clear fN
                  k_steps; repeat' (first | (refine unhold ?_; (first | ((with_reducible show wpAny _ _ (truthy (Value.str _ _)) _ _ _); with_reducible (refine' truthy_strK ?hlzq ?hbzq ?_); (case hlzq => k_dflt (first | exact tok_len _ (by assumption) | decide +kernel)); (case hbzq => k_dflt (first | exact tok_truthy _ _ | (refine (?_ : _ = false); decide +kernel) | (refine (?_ : _ = true); decide +kernel)))) | ((with_reducible show wpAny _ _ (subscriptTail _ _ (Value.str _ _) (Value.int _ _)) _ _ _); (first | with_reducible refine' str_last (by decide) ?_ | k_dflt (refine' str_last (by decide) ?_)); intro t' tk'; (try (revert t' tk'; intros)))); (try k_steps)))
                  unfold Hold
                  (rename Fr _ _ _ _ => fF); (rename News _ _ _ _ => fN)
                  have hud := TOd.b4
                  k_dflt (refine' kda_set (knd := PySem.strKind _ _) (k := ⟨#[100]⟩) fF fN ?U hdc (strKind_is _ _ _ _) ?z ?_)
                  case U => k_updF
                  case z => (rw [sizeLine_eq]; exact Nat.le_of_ble_eq_true (by with_unfolding_all rfl))
                  clear fF fN
                  intro h5 odd fF fN hdd
                  k_steps
                  unfold Hold
                  refine wpAny_call ?_
                  (rename Fr _ _ _ _ => fF); (rename News _ _ _ _ => fN)
                  clear hud
                  -- token e
                  k_dflt (refine' code_at (get_read fB fF fX (lits_all [(ld, odd), (L' + 1 + 1 + 1, o1), (L' + 1 + 1, o2), (L' + 1, c3), (145, tabObj #[])] fN) fT ?hk (mkO TOd odd) hvl hc3 ?hn0 ?hl8 ?htok ?h) ?b1 ?b2 ?b3 ?b4 ?b5)
                  case b1 => exact rfl
                  case b2 => exact rfl
                  case b3 => exact rfl
                  case b4 => exact Nat.le_of_ble_eq_true rfl
                  case b5 => exact Nat.le_of_ble_eq_true rfl
                  case hk => exact rfl
                  case hn0 => simp
                  case hl8 => (simp; omega)
                  case htok => exact lead_tok hz.e (by simp)
                  case h =>
                    clear fF fN hvl hc3
                    intro h3 tk3 tt3 vs3 nl3 ln3 tln3 fF fN hc3 hvl
                    replace fN := all_lits [(ld, odd), (L' + 1 + 1 + 1, o1), (L' + 1 + 1, o2), (L' + 1, c3), (145, tabObj #[])] fN
                    dsimp only [lexAll, lexLed, List.cons_append, List.nil_append] at fN
                    dsimp only
                    k_steps
                    unfold Hold
                    refine whl_turn (k := 0) (by passes_own) ?_
                    k_steps; repeat' (first | (refine unhold ?_; (first | ((with_reducible show wpAny _ _ (truthy (Value.str _ _)) _ _ _); with_reducible (refine' truthy_strK ?hlzq ?hbzq ?_); (case hlzq => k_dflt (first | exact tok_len _ (by assumption) | decide +kernel)); (case hbzq => k_dflt (first | exact tok_truthy _ _ | (refine (?_ : _ = false); decide +kernel) | (refine (?_ : _ = true); decide +kernel)))) | ((with_reducible show wpAny _ _ (subscriptTail _ _ (Value.str _ _) (Value.int _ _)) _ _ _); (first | with_reducible refine' str_last (by decide) ?_ | k_dflt (refine' str_last (by decide) ?_)); intro t' tk'; (try (revert t' tk'; intros)))); (try k_steps)))
                    unfold Hold
                    (rename Fr _ _ _ _ => fF); (rename News _ _ _ _ => fN)
                    k_dflt (refine' wp_at (init_spec (lead := z.e) (nm := 101) fB fF fX fN fT ?hk hz.e.2.1 hz.e.2.2.1 hz.e.2.2.2.1 hz.e.2.2.2.2.1 rfl hz.e.1 (by decide) (by decide) ?h) ?b1 ?b2 ?b3 ?b4 ?b5)
                    case b1 => exact rfl
                    case b2 => exact rfl
                    case b3 => exact rfl
                    case b4 => exact Nat.le_of_ble_eq_true rfl
                    case b5 => exact Nat.le_of_ble_eq_true rfl
                    case hk => exact rfl
                    case h =>
                      clear fF fN
                      intro xe h4 tk4 fre fF fN hfre hwe
                      have TOe := TOd.more hfre (by k_memK) (by k_memK) (by k_memK) (by k_memK) (by k_memK) (by k_memK) (by k_memK) (by k_memK)
                      have fN1 := news_tail fN
                      clear fN
                      k_steps; repeat' (first | (refine unhold ?_; (first | ((with_reducible show wpAny _ _ (truthy (Value.str _ _)) _ _ _); with_reducible (refine' truthy_strK ?hlzq ?hbzq ?_); (case hlzq => k_dflt (first | exact tok_len _ (by assumption) | decide +kernel)); (case hbzq => k_dflt (first | exact tok_truthy _ _ | (refine (?_ : _ = false); decide +kernel) | (refine (?_ : _ = true); decide +kernel)))) | ((with_reducible show wpAny _ _ (subscriptTail _ _ (Value.str _ _) (Value.int _ _)) _ _ _); (first | with_reducible refine' str_last (by decide) ?_ | k_dflt (refine' str_last (by decide) ?_)); intro t' tk'; (try (revert t' tk'; intros)))); (try k_steps)))
                      unfold Hold
                      (rename Fr _ _ _ _ => fF); (rename News _ _ _ _ => fN)
                      have hue := TOe.b4
                      k_dflt (refine' kda_set (knd := PySem.strKind _ _) (k := ⟨#[101]⟩) fF fN ?U hdd (strKind_is _ _ _ _) ?z ?_)
                      case U => k_updF
                      case z => (rw [sizeLine_eq]; exact Nat.le_of_ble_eq_true (by with_unfolding_all rfl))
                      clear fF fN
                      intro h5 ode fF fN hde
                      k_steps
                      unfold Hold
                      refine wpAny_call ?_
                      (rename Fr _ _ _ _ => fF); (rename News _ _ _ _ => fN)
                      clear hue
                      -- the end of the text
                      cases hc3
                      have On := mkO TOe ode
                      k_dflt (refine' code_at (get_none fB fF fX (lits_all [(ld, ode), (L' + 1 + 1 + 1, o1), (L' + 1 + 1, o2), (L' + 1, c3), (145, tabObj #[])] fN) fT ?hk On ?h) ?b1 ?b2 ?b3 ?b4 ?b5)
                      case b1 => exact rfl
                      case b2 => exact rfl
                      case b3 => exact rfl
                      case b4 => exact Nat.le_of_ble_eq_true rfl
                      case b5 => exact Nat.le_of_ble_eq_true rfl
                      case hk => exact rfl
                      case h =>
                        clear fF fN
                        intro h6 tk6 t6 nl6 tln6 fF fN
                        replace fN := all_lits [(ld, ode), (L' + 1 + 1 + 1, o1), (L' + 1 + 1, o2), (L' + 1, c3), (145, tabObj #[])] fN
                        dsimp only [lexAll, lexLed, List.cons_append, List.nil_append] at fN
                        dsimp only
                        k_steps
                        unfold Hold
                        refine whl_turn (k := 0) (by passes_own) ?_
                        k_steps; repeat' (first | (refine unhold ?_; (first | ((with_reducible show wpAny _ _ (truthy (Value.str _ _)) _ _ _); with_reducible (refine' truthy_strK ?hlzq ?hbzq ?_); (case hlzq => k_dflt (first | exact tok_len _ (by assumption) | decide +kernel)); (case hbzq => k_dflt (first | exact tok_truthy _ _ | (refine (?_ : _ = false); decide +kernel) | (refine (?_ : _ = true); decide +kernel)))) | ((with_reducible show wpAny _ _ (subscriptTail _ _ (Value.str _ _) (Value.int _ _)) _ _ _); (first | with_reducible refine' str_last (by decide) ?_ | k_dflt (refine' str_last (by decide) ?_)); intro t' tk'; (try (revert t' tk'; intros)))); (try k_steps)))
                        unfold Hold
                        refine wpAny_execs_nil ?_
                        dsimp only
                        (rename Fr g' _ _ _ => gF); (rename News g' _ _ _ => gN)
                        have hrows : (rowsOf z xa xb xc xd xe).map (·.nm) = [⟨#[97]⟩, ⟨#[98]⟩, ⟨#[99]⟩, ⟨#[100]⟩, ⟨#[101]⟩] := rfl
                        have hmem : ∀ {fr : List (Addr × Obj)}, (∀ p ∈ fr, p ∈ newt ++ fra ++ frb ++ frc ++ frd ++ fre) → ∀ p ∈ fr, p ∈ newt ++ fra ++ frb ++ frc ++ frd ++ fre := fun h => h
                        have hws : ∀ r ∈ rowsOf z xa xb xc xd xe, IsWs (newt ++ fra ++ frb ++ frc ++ frd ++ fre) r.x r.k r.b r.n r.nt := forall_rows (hwa.mono fun p hp => by simp [hp]) (hwb.mono fun p hp => by simp [hp]) (hwc.mono fun p hp => by simp [hp]) (hwd.mono fun p hp => by simp [hp]) (hwe.mono fun p hp => by simp [hp])
                        obtain ⟨nx, hfx, offx, chx⟩ := On
                        have Ot : LexOn w zz lf fix (newt ++ fra ++ frb ++ frc ++ frd ++ fre) base := ⟨nx, hfx, { offx with r1 := TOe.r1, r2 := TOe.r2, r3 := TOe.r3 }, chx⟩
                        refine' moves_rest (pre := [_, _, _, _]) (rows := rowsOf z xa xb xc xd xe) (tail := newt ++ fra ++ frb ++ frc ++ frd ++ fre) (ode := ode) (o1 := o1) (o2 := o2) (c3 := c3) (nl := nl6) (npb := npb) (ln := _) (tln := tln6) ?hb rfl fB gF fX fT gN rfl ?d1 ?d2 hc3c hrows ?hde hws Ot TOe CH CH2 l4 hsys lld.1 hA1 ?hB (by passes_own) ?hgood ?h
                        case hb => (refine' Eq.trans ?e1 ?e2; (case e1 => k_is); (case e2 => rfl))
                        case d1 => exact d1
                        case d2 => exact d2
                        case hde => exact hde
                        case hB => exact ⟨lld.2.2.2.2.1, lld.2.2.2.2.2.2.2.1, lld.2.2.2.2.2.1, lld.2.2.2.2.2.2.2.2.1, lld.2.2.2.2.2.2.2.2.2.1, lld.2.2.2.2.2.2.1⟩
                        case hgood => (rw [relR_rowsOf]; exact hgood)
                        case h =>
                          intro dm st9 h9 tk9 m9 F9 N9 ls9 V9
                          rw [relR_rowsOf] at V9
                          clear gF gN
                          dsimp only at F9 N9 ⊢
                          k_steps
                          (rename Fr h₀ _ _ _ => kF); (rename News h₀ _ _ _ => kN)
                          exact h dm st9 tb _ _ kF (fun p hp => kN p (by rw [en]; revert p; k_extra "x:sub")) ls9 V9
theorem all_cut : ∀ w p loose mean mg mb A₀ base h₀ L m cn cs ca ccd cl outer gd s R news text tt z g' L' h' tk' o1 o2 o3 zz lf fix ys nl npb tln foc fod ffd fsl tb h1 tk1 newt, Pcut w p loose mean mg mb A₀ base h₀ L m cn cs ca ccd cl outer gd s R news text tt z g' L' h' tk' o1 o2 o3 zz lf fix ys nl npb tln foc fod ffd fsl tb h1 tk1 newt := by
  have h : Pcut w p loose mean mg mb A₀ base h₀ L m cn cs ca ccd cl outer gd s R news text tt z g' L' h' tk' o1 o2 o3 zz lf fix ys nl npb tln foc fod ffd fsl tb h1 tk1 newt := at_cut
  delta w p loose mean mg mb A₀ base h₀ L m cn cs ca ccd cl outer gd s R news text tt z g' L' h' tk' o1 o2 o3 zz lf fix ys nl npb tln foc fod ffd fsl tb h1 tk1 newt at h
  exact fun w p loose mean mg mb A₀ base h₀ L m cn cs ca ccd cl outer gd s R news text tt z g' L' h' tk' o1 o2 o3 zz lf fix ys nl npb tln foc fod ffd fsl tb h1 tk1 newt => Classical.choose_spec ex_cut h ((w, p, loose, mean, mg, mb, A₀), (base, h₀, L, m, cn, cs, ca), (ccd, cl, outer, gd, s, R, news), (text, tt, z, g', L', h', tk'), (o1, o2, o3, zz, lf, fix, ys), (nl, npb, tln, foc, fod, ffd, fsl), (tb, h1, tk1, newt))
end K_moves_spec
theorem moves_spec : type_of% (@Subtype.property _ _ K_moves_spec.cut (no_implicit_lambda% K_moves_spec.all_cut)) := no_implicit_lambda% (@Subtype.property _ _ K_moves_spec.cut (no_implicit_lambda% K_moves_spec.all_cut))
end Mine
end
section
open PySem PySem.W PyProof.Rows PySem.Spec PySem.Calls
set_option maxRecDepth 100000
namespace Mine
/-- what an item gives lies in the ledger -/
noncomputable def VIn {α : Type} (V : α → Value → List (Addr × Obj) → Prop) (nw : List (Addr × Obj)) (k : α) (y : Value) : Prop := ∃ ex, V k y ex ∧ ∀ p ∈ ex, p ∈ nw
/-- what an item gives, and nothing else, lies ahead of the ledger -/
noncomputable def Own {α : Type} (V : α → Value → List (Addr × Obj) → Prop) (as : List α) (news exs : List (Addr × Obj)) : Prop := ∀ p ∈ exs, (∃ k y ex, k ∈ as ∧ V k y ex ∧ p ∈ ex) ∧ ∀ q ∈ news, @Ne Nat p.1 q.1
theorem Own.none {α : Type} {V : α → Value → List (Addr × Obj) → Prop} {as : List α} {exs news : List (Addr × Obj)} (h : Own V as news exs) (hV : ∀ k y ex, V k y ex → ex = []) : exs = [] := by
  cases exs with
  | nil => rfl
  | cons a r =>
    obtain ⟨⟨k, y, ex, _, h1, h2⟩, _⟩ := h a (.head _)
    rw [hV k y ex h1] at h2
    cases h2
theorem Own.more {α : Type} {V : α → Value → List (Addr × Obj) → Prop} {as : List α} {exs ex news : List (Addr × Obj)} {k : α} {y : Value} (h : Own V as news exs) (hk : k ∈ as) (hV : V k y ex) (ho : ∀ p ∈ ex, ∀ q ∈ news, @Ne Nat p.1 q.1) : Own V as news (ex ++ exs) := fun p hp =>
  (List.mem_append.mp hp).elim (fun q => ⟨⟨k, y, ex, hk, hV, q⟩, ho p q⟩) (h p)
theorem Paired.mono' {α β : Type} {V V' : α → β → Prop} (h : ∀ k y, V k y → V' k y) : ∀ {as : List α} {ys : List β}, Paired V as ys → Paired V' as ys := by
  intro as ys r
  induction r with
  | nil => exact .nil
  | cons a _ ih => exact .cons (h _ _ a) ih
theorem off3_app {I C D : Addr} {ex nw : List (Addr × Obj)} (h : ∀ p ∈ ex, @Ne Nat p.1 I ∧ @Ne Nat p.1 C ∧ @Ne Nat p.1 D) (o : LCg.Off3 I C D nw) : LCg.Off3 I C D (ex ++ nw) :=
  LCg.Off3.of fun p hp => (List.mem_append.mp hp).elim (h p) (o.mem p)
section
variable {prog : Program} {w : World} {A : Around} {E : Value → Shared → Prop} {s : Shared} {h₀ : Heap} {L : Addr} {m : Str → Option Value} {env : Env} {α : Type}
noncomputable abbrev TestK (prog : Program) (w : World) (A : Around) (h₀ : Heap) (L : Addr) (m : Str → Option Value) (s : Shared) (ct : PySem.Expr) (env' : Env) (front nw : List (Addr × Obj)) (b : Bool) (E : Value → Shared → Prop) (h : Heap) (tk : Nat) : Prop :=
  wpAny (model prog w) A (isTrue ct env' (eval ct env')) (fun ok s' => ok = b ∧ ∃ h' tk', s' = { s with heap := h', toks := tk' } ∧ Fr h₀ L h' m ∧ News h₀ L h' (front ++ nw)) E { s with heap := h, toks := tk }
noncomputable abbrev ElK (prog : Program) (w : World) (A : Around) (h₀ : Heap) (L : Addr) (m : Str → Option Value) (s : Shared) (elt : PySem.Expr) (env' : Env) (front nw : List (Addr × Obj)) (V : Value → List (Addr × Obj) → Prop) (E : Value → Shared → Prop) (h : Heap) (tk : Nat) : Prop :=
  wpAny (model prog w) A (eval elt env') (fun y s' => ∃ ex h' tk', s' = { s with heap := h', toks := tk' } ∧ Fr h₀ L h' m ∧ News h₀ L h' (front ++ (ex ++ nw)) ∧ V y ex ∧ ∀ p ∈ ex, ∀ q ∈ front ++ nw, @Ne Nat p.1 q.1) E { s with heap := h, toks := tk }
theorem restU_G {elt : PySem.Expr} {x : Str} {scope : Scope} {cl : List (Str × Addr)} {S : List (Addr × Obj) → Prop} {P : Nat → Value → Prop} {Fin : List Value → List (Addr × Obj) → Prop} {news : List (Addr × Obj)} {n : Nat} {as : List α} (IsIt : α → Value → Prop) (V : α → Value → List (Addr × Obj) → Prop)
    (hn : as.length = n) (hP : ∀ i v, i < n → P i v → ∃ k, as[i]? = some k ∧ IsIt k v) (hS : ∀ exs, S (exs ++ news))
    (el : ∀ k v I oI C oC D m₂ ys exs h tk E', k ∈ as → IsIt k v → LCg.NsObj oC m₂ → m₂ x = some v → Own V as news exs → Fr h₀ L h m → News h₀ L h ((I, oI) :: (C, oC) :: (D, LCg.lst ys) :: (exs ++ news)) → ElK prog w A h₀ L m s elt (compEnvC scope cl C env) [(I, oI), (C, oC), (D, LCg.lst ys)] (exs ++ news) (V k) E' h tk)
    (fin : ∀ ys exs, Own V as news exs → Paired (VIn V exs) as ys → Fin ys (exs ++ news)) : LCg.CompRest prog w A h₀ L m env elt x scope cl s S P Fin n 0 [] news := by
  have key : ∀ (j i : Nat) (ys : List Value) (exs : List (Addr × Obj)), i + j = n → Own V as news exs → Paired (VIn V exs) (as.take i) ys → LCg.CompRest prog w A h₀ L m env elt x scope cl s S P Fin j i ys (exs ++ news) := by
    intro j
    induction j with
    | zero =>
      intro i ys exs hi hsub hy
      rw [List.take_of_length_le (by omega)] at hy
      exact LCg.CompRest.zero (fin ys exs hsub hy)
    | succ j ih =>
      intro i ys exs hi hsub hy
      refine LCg.CompRest.succ ?_
      intro v I oI C oC D m₂ h tk E' hv hC hx F N off ne
      obtain ⟨k, hk, hkv⟩ := hP i v (by omega) hv
      refine wpAny_mono (el k v I oI C oC D m₂ ys exs h tk E' (List.mem_of_getElem? hk) hkv hC hx hsub F N) (fun y s₂ hq => ?_) fun _ _ e => e
      obtain ⟨ex, h', tk', rfl, F', N', hV, hoff⟩ := hq
      rw [← List.append_assoc ex] at N'
      refine ⟨h', tk', (ex ++ exs) ++ news, rfl, F', N', by rw [List.append_assoc]; exact off3_app (fun p hp => ⟨hoff p hp _ (.head _), hoff p hp _ (.tail _ (.head _)), hoff p hp _ (.tail _ (.tail _ (.head _)))⟩) off, hS _, ih (i + 1) _ _ (by omega) (hsub.more (List.mem_of_getElem? hk) hV fun p hp q hq => hoff p hp q (by simp [hq])) ?_⟩
      rw [List.take_add_one, hk]
      exact (Paired.mono' (fun k y ⟨e, h1, h2⟩ => ⟨e, h1, fun p hp => List.mem_append_right _ (h2 p hp)⟩) hy).snoc ⟨ex, hV, fun p hp => List.mem_append_left _ hp⟩
  exact key n 0 [] [] (by omega) (List.forall_mem_nil _) (by simp only [List.take_zero]; exact .nil)
theorem restT_G {ct elt : PySem.Expr} {x : Str} {scope : Scope} {cl : List (Str × Addr)} {S : List (Addr × Obj) → Prop} {P : Nat → Value → Prop} {Fin : List Value → List (Addr × Obj) → Prop} {news : List (Addr × Obj)} {n : Nat} {as : List α} (IsIt : α → Value → Prop) (pz : α → Bool) (V : α → Value → List (Addr × Obj) → Prop)
    (hn : as.length = n) (hP : ∀ i v, i < n → P i v → ∃ k, as[i]? = some k ∧ IsIt k v) (hS : ∀ exs, S (exs ++ news))
    (test : ∀ k v I oI C oC D m₂ ys exs h tk E', k ∈ as → IsIt k v → LCg.NsObj oC m₂ → m₂ x = some v → Own V as news exs → Fr h₀ L h m → News h₀ L h ((I, oI) :: (C, oC) :: (D, LCg.lst ys) :: (exs ++ news)) → TestK prog w A h₀ L m s ct (compEnvC scope cl C env) [(I, oI), (C, oC), (D, LCg.lst ys)] (exs ++ news) (pz k) E' h tk)
    (el : ∀ k v I oI C oC D m₂ ys exs h tk E', k ∈ as → IsIt k v → LCg.NsObj oC m₂ → m₂ x = some v → Own V as news exs → Fr h₀ L h m → News h₀ L h ((I, oI) :: (C, oC) :: (D, LCg.lst ys) :: (exs ++ news)) → pz k = true → ElK prog w A h₀ L m s elt (compEnvC scope cl C env) [(I, oI), (C, oC), (D, LCg.lst ys)] (exs ++ news) (V k) E' h tk)
    (fin : ∀ ys exs, Own V as news exs → Paired (VIn V exs) (as.filter pz) ys → Fin ys (exs ++ news)) : LCt.CompRestT prog w A h₀ L m env ct elt x scope cl s S P Fin n 0 [] news := by
  have key : ∀ (j i : Nat) (ys : List Value) (exs : List (Addr × Obj)), i + j = n → Own V as news exs → Paired (VIn V exs) ((as.take i).filter pz) ys → LCt.CompRestT prog w A h₀ L m env ct elt x scope cl s S P Fin j i ys (exs ++ news) := by
    intro j
    induction j with
    | zero =>
      intro i ys exs hi hsub hy
      rw [List.take_of_length_le (by omega)] at hy
      exact LCt.CompRestT.zero (fin ys exs hsub hy)
    | succ j ih =>
      intro i ys exs hi hsub hy
      refine LCt.CompRestT.succ ?_
      intro v I oI C oC D m₂ h tk E' hv hC hx F N off ne
      obtain ⟨k, hk, hkv⟩ := hP i v (by omega) hv
      have hkm := List.mem_of_getElem? hk
      refine wpAny_mono (test k v I oI C oC D m₂ ys exs h tk E' hkm hkv hC hx hsub F N) (fun ok s₂ hq => ?_) fun _ _ e => e
      obtain ⟨rfl, h', tk', rfl, F', N'⟩ := hq
      cases hpz : pz k with
      | true =>
        simp only [if_true]
        refine wpAny_mono (el k v I oI C oC D m₂ ys exs h' tk' E' hkm hkv hC hx hsub F' N' hpz) (fun y s₂ hq => ?_) fun _ _ e => e
        obtain ⟨ex, h2, tk2, rfl, F2, N2, hV, hoff⟩ := hq
        rw [← List.append_assoc ex] at N2
        refine ⟨h2, tk2, (ex ++ exs) ++ news, rfl, F2, N2, by rw [List.append_assoc]; exact off3_app (fun p hp => ⟨hoff p hp _ (.head _), hoff p hp _ (.tail _ (.head _)), hoff p hp _ (.tail _ (.tail _ (.head _)))⟩) off, hS _, ih (i + 1) _ _ (by omega) (hsub.more hkm hV fun p hp q hq => hoff p hp q (by simp [hq])) ?_⟩
        rw [List.take_add_one, hk]
        simp only [Option.toList, List.filter_append]
        rw [show [k].filter pz = [k] by simp [hpz]]
        exact (Paired.mono' (fun k y ⟨e, h1, h2⟩ => ⟨e, h1, fun p hp => List.mem_append_right _ (h2 p hp)⟩) hy).snoc ⟨ex, hV, fun p hp => List.mem_append_left _ hp⟩
      | false =>
        simp only [Bool.false_eq_true, if_false]
        refine ⟨h', tk', exs ++ news, rfl, F', N', off, hS _, ih (i + 1) _ _ (by omega) hsub ?_⟩
        rw [List.take_add_one, hk]
        simp only [Option.toList, List.filter_append]
        rw [show [k].filter pz = [] by simp [hpz], List.append_nil]
        exact hy
  exact key n 0 [] [] (by omega) (List.forall_mem_nil _) (by simp only [List.take_zero, List.filter_nil]; exact .nil)
/-- the source of a comprehension: a list of the ledger, or a range from nought -/
inductive SrcG (s : Shared) (news : List (Addr × Obj)) (IsIt : α → Value → Prop) (as : List α) : Value → Prop
  | lst {ax : Addr} {vs : List Value} {k : Nat} (hm : (ax, ({ cls := .type "list", data := .seq vs.toArray k } : Obj)) ∈ news) (hz : vs.length ≤ sizeLine) (hp : Paired IsIt as vs) : SrcG s news IsIt as (.ref ax)
  | rng {r : Addr} {a b : Int} {t u v : Tok} (hr : IsRange s.heap r a b 1 t u v) (hsm : Builtin.Range.small a b 1 = true) (hn : Builtin.Range.rangeSize a b 1 = ((as.length : Nat) : Int)) (hz : as.length ≤ sizeLine) (hp : ∀ (i : Nat) k, as[i]? = some k → ∀ t, IsIt k (.int (a + (i : Int)) t)) : SrcG s news IsIt as (.ref r)
theorem paired_at {IsIt : α → Value → Prop} : ∀ {as : List α} {vs : List Value}, Paired IsIt as vs → ∀ (i : Nat) (v : Value), vs[i]? = some v → ∃ k, as[i]? = some k ∧ IsIt k v
  | _, _, .nil, i, v, h => by simp at h
  | _, _, .cons a r, 0, v, h => by simp at h; subst h; exact ⟨_, rfl, a⟩
  | _, _, .cons a r, i + 1, v, h => by simpa using paired_at r i v (by simpa using h)
theorem paired_len {IsIt : α → Value → Prop} {as : List α} {vs : List Value} (h : Paired IsIt as vs) : as.length = vs.length := by
  induction h with
  | nil => rfl
  | cons _ _ ih => simp [ih]
inductive LcU.Src (α : Type) (prog : Program) (w : World) (A : Around) (h₀ : Heap) (L : Addr) (m : Str → Option Value) (env : Env) (elt : PySem.Expr) (x : Str) (scope : Scope) (cl : List (Str × Addr)) (Q : Value → Shared → Prop) (xv : Value) (s₁ : Shared) : Prop
  | mk (news : List (Addr × Obj)) (as : List α) (IsIt : α → Value → Prop) (V : α → Value → List (Addr × Obj) → Prop)
    (h0 : A.handled = none)
    (h1 : Fr h₀ L s₁.heap m)
    (h2 : News h₀ L s₁.heap news)
    (h3 : SrcG s₁ news IsIt as xv)
    (h4 : (∀ k v I oI C oC D m₂ ys exs h tk E', k ∈ as → IsIt k v → LCg.NsObj oC m₂ → m₂ x = some v → Own V as news exs → Fr h₀ L h m → News h₀ L h ((I, oI) :: (C, oC) :: (D, LCg.lst ys) :: (exs ++ news)) → ElK prog w A h₀ L m s₁ elt (compEnvC scope cl C env) [(I, oI), (C, oC), (D, LCg.lst ys)] (exs ++ news) (V k) E' h tk))
    (h5 : (∀ D h' tk ys exs, Fr h₀ L h' m → News h₀ L h' ((D, LCg.lst ys) :: (exs ++ news)) → Own V as news exs → Paired (VIn V exs) as ys → (∀ p ∈ exs ++ news, @Ne Nat p.1 D) → Q (.ref D) { s₁ with heap := h', toks := tk }))
    : LcU.Src α prog w A h₀ L m env elt x scope cl Q xv s₁
theorem lcU {elt iter : PySem.Expr} {x : Str} {px : Pos} {scope : Scope} {cl : List (Str × Addr)} {pos : Pos} {Q : Value → Shared → Prop} (F₀ : Fr h₀ L s.heap m)
    (hclos : closureFor scope env = pure cl) (hcell : ∀ y ∈ scope.names, y.2 ≠ .cell) (hkind : scope.kind = .function)
    (hnames : ∀ y ∈ scope.names, y.2 = .local → scope.names.lookup y.1 = some .local) (hx : scope.names.lookup x = some .local)
    (h : wpAny (model prog w) A (eval iter env) (LcU.Src α prog w A h₀ L m env elt x scope cl Q) E s)
    (hs : ∀ x, foldedSetIterable iter env x = pure x := by intro _; rfl) :
    wpAny (model prog w) A (eval (.ListComp elt [⟨.Name x px, iter, [], 0⟩] scope pos) env) Q E s := by
  refine LCg.ListComp_U F₀ hclos hcell hkind hnames hx (wpAny_mono h (fun xv s₁ h₁ => ?_) fun _ _ e => e) hs
  obtain ⟨news, as, IsIt, V, hh, F, N, S, el, fin⟩ := h₁
  have off1 : ∀ (D : Addr) (l : List (Addr × Obj)), LCg.Off1 D l → ∀ p ∈ l, @Ne Nat p.1 D := by
    intro D l
    induction l with
    | nil => intro _ p hp; cases hp
    | cons a r ih =>
      intro hl p hp
      rcases List.mem_cons.mp hp with rfl | hp
      · exact hl.1
      · exact ih hl.2 p hp
  cases S with
  | @lst ax vs k hm hz hp =>
    refine LCg.CompSrc.ledger hh F N hm (by rw [List.size_toArray]; exact hz) fun g => ?_
    refine restU_G (as := as) IsIt V (by rw [List.size_toArray]; exact paired_len hp) (fun i v _ hv => paired_at hp i v (by simpa using hv)) (fun exs => .inr ⟨_, List.mem_append_right _ hm, rfl, _, rfl⟩) (fun k v I oI C oC D m₂ ys exs h tk E' => el k v I oI C oC D m₂ ys exs h tk E') fun ys exs hsub hy D h' tk F' N' o1 => fin D h' tk ys exs F' N' hsub hy (off1 D _ o1)
  | @rng r a b t u v hr hsm hn hz hp =>
    refine LCg.CompSrc.range hh F N hr hsm hn hz fun g => ?_
    refine restU_G (as := as) IsIt V rfl (fun i v hi hv => ?_) (fun _ => trivial) (fun k v I oI C oC D m₂ ys exs h tk E' => el k v I oI C oC D m₂ ys exs h tk E') fun ys exs hsub hy D h' tk F' N' o1 => fin D h' tk ys exs F' N' hsub hy (off1 D _ o1)
    obtain ⟨t, rfl⟩ := hv
    exact ⟨as[i], List.getElem?_eq_getElem hi, hp i _ (List.getElem?_eq_getElem hi) t⟩
inductive LcT.Src (α : Type) (prog : Program) (w : World) (A : Around) (h₀ : Heap) (L : Addr) (m : Str → Option Value) (env : Env) (ct : PySem.Expr) (elt : PySem.Expr) (x : Str) (scope : Scope) (cl : List (Str × Addr)) (Q : Value → Shared → Prop) (xv : Value) (s₁ : Shared) : Prop
  | mk (news : List (Addr × Obj)) (as : List α) (IsIt : α → Value → Prop) (pz : α → Bool) (V : α → Value → List (Addr × Obj) → Prop)
    (h0 : A.handled = none)
    (h1 : Fr h₀ L s₁.heap m)
    (h2 : News h₀ L s₁.heap news)
    (h3 : SrcG s₁ news IsIt as xv)
    (h4 : (∀ k v I oI C oC D m₂ ys exs h tk E', k ∈ as → IsIt k v → LCg.NsObj oC m₂ → m₂ x = some v → Own V as news exs → Fr h₀ L h m → News h₀ L h ((I, oI) :: (C, oC) :: (D, LCg.lst ys) :: (exs ++ news)) → TestK prog w A h₀ L m s₁ ct (compEnvC scope cl C env) [(I, oI), (C, oC), (D, LCg.lst ys)] (exs ++ news) (pz k) E' h tk))
    (h5 : (∀ k v I oI C oC D m₂ ys exs h tk E', k ∈ as → IsIt k v → LCg.NsObj oC m₂ → m₂ x = some v → Own V as news exs → Fr h₀ L h m → News h₀ L h ((I, oI) :: (C, oC) :: (D, LCg.lst ys) :: (exs ++ news)) → pz k = true → ElK prog w A h₀ L m s₁ elt (compEnvC scope cl C env) [(I, oI), (C, oC), (D, LCg.lst ys)] (exs ++ news) (V k) E' h tk))
    (h6 : (∀ D h' tk ys exs, Fr h₀ L h' m → News h₀ L h' ((D, LCg.lst ys) :: (exs ++ news)) → Own V as news exs → Paired (VIn V exs) (as.filter pz) ys → (∀ p ∈ exs ++ news, @Ne Nat p.1 D) → Q (.ref D) { s₁ with heap := h', toks := tk }))
    : LcT.Src α prog w A h₀ L m env ct elt x scope cl Q xv s₁
theorem lcT {ct elt iter : PySem.Expr} {x : Str} {px : Pos} {scope : Scope} {cl : List (Str × Addr)} {pos : Pos} {Q : Value → Shared → Prop} (F₀ : Fr h₀ L s.heap m)
    (hclos : closureFor scope env = pure cl) (hcell : ∀ y ∈ scope.names, y.2 ≠ .cell) (hkind : scope.kind = .function)
    (hnames : ∀ y ∈ scope.names, y.2 = .local → scope.names.lookup y.1 = some .local) (hx : scope.names.lookup x = some .local)
    (h : wpAny (model prog w) A (eval iter env) (LcT.Src α prog w A h₀ L m env ct elt x scope cl Q) E s)
    (hs : ∀ x, foldedSetIterable iter env x = pure x := by intro _; rfl) :
    wpAny (model prog w) A (eval (.ListComp elt [⟨.Name x px, iter, [ct], 0⟩] scope pos) env) Q E s := by
  refine LCt.ListComp_T F₀ hclos hcell hkind hnames hx (wpAny_mono h (fun xv s₁ h₁ => ?_) fun _ _ e => e) hs
  obtain ⟨news, as, IsIt, pz, V, hh, F, N, S, test, el, fin⟩ := h₁
  have off1 : ∀ (D : Addr) (l : List (Addr × Obj)), LCg.Off1 D l → ∀ p ∈ l, @Ne Nat p.1 D := by
    intro D l
    induction l with
    | nil => intro _ p hp; cases hp
    | cons a r ih =>
      intro hl p hp
      rcases List.mem_cons.mp hp with rfl | hp
      · exact hl.1
      · exact ih hl.2 p hp
  cases S with
  | @lst ax vs k hm hz hp =>
    refine LCt.CompSrcT.ledger hh F N hm (by rw [List.size_toArray]; exact hz) fun g => ?_
    refine restT_G (as := as) IsIt pz V (by rw [List.size_toArray]; exact paired_len hp) (fun i v _ hv => paired_at hp i v (by simpa using hv)) (fun exs => .inr ⟨_, List.mem_append_right _ hm, rfl, _, rfl⟩) (fun k v I oI C oC D m₂ ys exs h tk E' => test k v I oI C oC D m₂ ys exs h tk E') (fun k v I oI C oC D m₂ ys exs h tk E' => el k v I oI C oC D m₂ ys exs h tk E') fun ys exs hsub hy D h' tk F' N' o1 => fin D h' tk ys exs F' N' hsub hy (off1 D _ o1)
  | @rng r a b t u v hr hsm hn hz hp =>
    refine LCt.CompSrcT.range hh F N hr hsm hn hz fun g => ?_
    refine restT_G (as := as) IsIt pz V rfl (fun i v hi hv => ?_) (fun _ => trivial) (fun k v I oI C oC D m₂ ys exs h tk E' => test k v I oI C oC D m₂ ys exs h tk E') (fun k v I oI C oC D m₂ ys exs h tk E' => el k v I oI C oC D m₂ ys exs h tk E') fun ys exs hsub hy D h' tk F' N' o1 => fin D h' tk ys exs F' N' hsub hy (off1 D _ o1)
    obtain ⟨t, rfl⟩ := hv
    exact ⟨as[i], List.getElem?_eq_getElem hi, hp i _ (List.getElem?_eq_getElem hi) t⟩
end
end Mine
end
section
open PySem PySem.W PyProof.Rows PySem.Spec PySem.Calls
set_option maxRecDepth 100000
namespace Mine
section
variable {prog : Program} {w : World} {A : Around} {E : Value → Shared → Prop} {s : Shared} {h₀ : Heap} {L : Addr} {m : Str → Option Value} {env : Env} {α : Type}
noncomputable abbrev TestsK (prog : Program) (w : World) (A : Around) (h₀ : Heap) (L : Addr) (m : Str → Option Value) (s : Shared) (ifs : List PySem.Expr) (env' : Env) (front nw : List (Addr × Obj)) (b : Bool) (E : Value → Shared → Prop) (h : Heap) (tk : Nat) : Prop :=
  wpAny (model prog w) A (forIn ifs true fun c r => if r = true then do let ok ← isTrue c env' (eval c env'); pure (ForInStep.yield ok) else pure (ForInStep.yield r)) (fun ok s' => ok = b ∧ ∃ h' tk', s' = { s with heap := h', toks := tk' } ∧ Fr h₀ L h' m ∧ News h₀ L h' (front ++ nw)) E { s with heap := h, toks := tk }
end
namespace K_lcC_block
noncomputable def cut : (@Subtype Prop fun P => P → ∀ {prog : Program} {w : World} {A : Around} {E : Value → Shared → Prop} {h₀ : Heap} {L : Addr} {m : Str → Option Value} {env : Env} {α : Type} {elt iter : PySem.Expr} {ifs : List PySem.Expr} {x : Str} {px : Pos} {scope : Scope} {cl : List (Str × Addr)} {pos : Pos} {s₁ : Shared} {RR : Value → Addr → Result → Shared → Prop} {news : List (Addr × Obj)} {ax : Addr} {vs : List Value} {kk : Nat} {as : List α} {IsIt : α → Value → Prop} {pz : α → Bool} {V : α → Value → List (Addr × Obj) → Prop} (hkind : scope.kind = .function) (hcf : ∀ n, cellsFrom n scope.names cl = (x, n) :: cl) (hpc : ∀ h : Heap, pushCells h scope.names = h.push { cls := .type "cell", data := .cell none }) (hx : (relabel scope env).names.lookup x = some .cell) (hh : A.handled = none) (F : Fr h₀ L s₁.heap m) (N : News h₀ L s₁.heap news) (hm : (ax, ({ cls := .type "list", data := .seq vs.toArray kk } : Obj)) ∈ news) (hsz : vs.length ≤ sizeLine) (hpr : Paired IsIt as vs) (tst : ∀ k v I oI C oC c oc D ys exs h tk (E' : Value → Shared → Prop), k ∈ as → IsIt k v → oc.data = .cell (some v) → Own V as news exs → Fr h₀ L h m → News h₀ L h ((I, oI) :: (C, oC) :: (c, oc) :: (D, LCg.lst ys) :: (exs ++ news)) → TestsK prog w A h₀ L m s₁ ifs (compEnvC scope ((x, c) :: cl) C env) [(I, oI), (C, oC), (c, oc), (D, LCg.lst ys)] (exs ++ news) (pz k) E' h tk) (el : ∀ k v I oI C oC c oc D ys exs h tk (E' : Value → Shared → Prop), k ∈ as → IsIt k v → oc.data = .cell (some v) → Own V as news exs → Fr h₀ L h m → News h₀ L h ((I, oI) :: (C, oC) :: (c, oc) :: (D, LCg.lst ys) :: (exs ++ news)) → pz k = true → ElK prog w A h₀ L m s₁ elt (compEnvC scope ((x, c) :: cl) C env) [(I, oI), (C, oC), (c, oc), (D, LCg.lst ys)] (exs ++ news) (V k) E' h tk) (fin : ∀ D C h' tk ys exs, Fr h₀ L h' m → News h₀ L h' ((D, LCg.lst ys) :: (exs ++ news)) → Own V as news exs → Paired (VIn V exs) (as.filter pz) ys → (∀ p ∈ exs ++ news, @Ne Nat p.1 D) → h'.Ns C (fun _ => none) → h₀.get? C = none → @Ne Nat C L → @Ne Nat D C → (∀ p ∈ exs ++ news, @Ne Nat p.1 C) → RR (.ref D) C (.ok .next) { s₁ with heap := h', toks := tk }), wpAny (model prog w) A (pyIter (.ref ax)) (fun it s₂ => wpAny (model prog w) A (newList []) (fun acc s₃ => wpAny (model prog w) A (newFunctionEnv scope env.globals cl [] env.qual none .none (some env)) (fun cenv s₄ =>
      codeAny (model prog w) A (.compStart (.ListComp elt [⟨.Name x px, iter, ifs, 0⟩] scope pos) 0 it acc { cenv with scope := relabel scope env }) (RR acc cenv.locals) s₄) E s₃) E s₂) E s₁) := by
  refine' mkCut fun hole => ?_
  rotate_left
  focus
  intro prog w A E h₀ L m env α elt iter ifs x px scope cl pos s₁ RR news ax vs kk as IsIt pz V hkind hcf hpc hx hh F N hm hsz hpr tst el fin
  have hl : s₁.heap.IsList ax vs.toArray := ⟨_, (N _ hm).1, rfl, kk, rfl⟩
  have hlen := paired_len hpr
  refine wpAny_pyIter_list hl ?_
  refine wpAny_newObj_type (envOne hcf hpc ?_)
  dsimp only
  have hlt : ax < s₁.heap.objs.size := Heap.lt_size (N _ hm).1
  generalize hI : s₁.heap.objs.size = I at *
  generalize hH1 : s₁.heap.push { cls := .type "list_iterator", data := .fields #[.ref ax, .int 0 0] } = H1
  have sz1 : H1.objs.size = I + 1 := by rw [← hH1, Heap.size_push, hI]
  generalize hH2 : H1.push { cls := .type "list", dict := none, data := .seq ([] : List Value).toArray } = H2
  have sz2 : H2.objs.size = I + 1 + 1 := by rw [← hH2, Heap.size_push, sz1]
  generalize hH3 : H2.push { cls := .type "dict", data := .dict #[] } = H3
  have sz3 : H3.objs.size = I + 1 + 1 + 1 := by rw [← hH3, Heap.size_push, sz2]
  generalize hH4 : H3.push { cls := .type "cell", data := .cell none } = H4
  have up1 : ∀ b o, s₁.heap.get? b = some o → H1.get? b = some o := fun b o e => by rw [← hH1]; exact Heap.get?_push_of_some _ e
  have up2 : ∀ b o, H1.get? b = some o → H2.get? b = some o := fun b o e => by rw [← hH2]; exact Heap.get?_push_of_some _ e
  have up3 : ∀ b o, H2.get? b = some o → H3.get? b = some o := fun b o e => by rw [← hH3]; exact Heap.get?_push_of_some _ e
  have up4 : ∀ b o, H3.get? b = some o → H4.get? b = some o := fun b o e => by rw [← hH4]; exact Heap.get?_push_of_some _ e
  have up : ∀ b o, s₁.heap.get? b = some o → H4.get? b = some o := fun b o e => up4 _ _ (up3 _ _ (up2 _ _ (up1 _ _ e)))
  have gI : H4.get? I = some { cls := .type "list_iterator", data := .fields #[.ref ax, .int 0 0] } := up4 _ _ (up3 _ _ (up2 _ _ (by rw [← hH1, ← hI]; exact Heap.get?_push_size _ rfl)))
  have gD : H4.get? (I + 1) = some (LCg.lst []) := up4 _ _ (up3 _ _ (by rw [← hH2, ← sz1]; exact Heap.get?_push_size _ rfl))
  have gC : H4.get? (I + 1 + 1) = some { cls := .type "dict", data := .dict #[] } := up4 _ _ (by rw [← hH3, ← sz2]; exact Heap.get?_push_size _ rfl)
  have gc : H4.get? (I + 1 + 1 + 1) = some { cls := .type "cell", data := .cell none } := by rw [← hH4, ← sz3]; exact Heap.get?_push_size _ rfl
  rw [sz1, sz2]
  revert hkind hcf hpc hx hh F N hm hsz hpr tst el fin hl hlen hI hlt hH1 sz1 hH2 sz2 hH3 sz3 hH4 up1 up2 up3 up4 up gI gD gC gc
  revert α as IsIt pz V
  revert prog w A E h₀ L m env elt iter ifs x px scope cl pos s₁ RR news ax vs kk I H1 H2 H3 H4
  exact no_implicit_lambda% hole.get
noncomputable section
noncomputable def Pcut : (Program) → (World) → (Around) → (Value → Shared → Prop) → (Heap) → (Addr) → (Str → Option Value) → (Env) → (Expr) → (Expr) → (List Expr) → (Str) → (Pos) → (Scope) → (List (Str × Addr)) → (Pos) → (Shared) → (Value → Addr → Result → Shared → Prop) → (List (Addr × Obj)) → (Addr) → (List Value) → (Nat) → (Nat) → (Heap) → (Heap) → (Heap) → (Heap) → Prop := (@id (∀ {Rcut : (Program) → (World) → (Around) → (Value → Shared → Prop) → (Heap) → (Addr) → (Str → Option Value) → (Env) → (Expr) → (Expr) → (List Expr) → (Str) → (Pos) → (Scope) → (List (Str × Addr)) → (Pos) → (Shared) → (Value → Addr → Result → Shared → Prop) → (List (Addr × Obj)) → (Addr) → (List Value) → (Nat) → (Nat) → (Heap) → (Heap) → (Heap) → (Heap) → Prop}, cut.1 = (∀ prog w A E h₀ L m env elt iter ifs x px scope cl pos s₁ RR news ax vs kk I H1 H2 H3 H4, Rcut prog w A E h₀ L m env elt iter ifs x px scope cl pos s₁ RR news ax vs kk I H1 H2 H3 H4) → _) fun {Rcut} _ => Rcut) rfl
noncomputable def Tcut : Type := (Program × World × Around × (Value → Shared → Prop) × Heap × Addr) × ((Str → Option Value) × Env × Expr × Expr × (List Expr) × Str) × (Pos × Scope × (List (Str × Addr)) × Pos × Shared × (Value → Addr → Result → Shared → Prop)) × ((List (Addr × Obj)) × Addr × (List Value) × Nat × Nat × Heap) × (Heap × Heap × Heap)
noncomputable def Qcut (x : Tcut) : Prop := Pcut x.1.1 x.1.2.1 x.1.2.2.1 x.1.2.2.2.1 x.1.2.2.2.2.1 x.1.2.2.2.2.2 x.2.1.1 x.2.1.2.1 x.2.1.2.2.1 x.2.1.2.2.2.1 x.2.1.2.2.2.2.1 x.2.1.2.2.2.2.2 x.2.2.1.1 x.2.2.1.2.1 x.2.2.1.2.2.1 x.2.2.1.2.2.2.1 x.2.2.1.2.2.2.2.1 x.2.2.1.2.2.2.2.2 x.2.2.2.1.1 x.2.2.2.1.2.1 x.2.2.2.1.2.2.1 x.2.2.2.1.2.2.2.1 x.2.2.2.1.2.2.2.2.1 x.2.2.2.1.2.2.2.2.2 x.2.2.2.2.1 x.2.2.2.2.2.1 x.2.2.2.2.2.2
theorem ex_cut : ∃ x : Tcut, Qcut x → ∀ y, Qcut y := by
  haveI := neW; haveI := neA; haveI := neS
  haveI : Nonempty Tcut := by unfold Tcut; set_option synthInstance.maxSize 2000 in infer_instance
  exact henk1 Qcut
noncomputable def Ccut : Tcut := Classical.choose ex_cut
@[irreducible] noncomputable def prog : Program := Ccut.1.1
@[irreducible] noncomputable def w : World := Ccut.1.2.1
@[irreducible] noncomputable def A : Around := Ccut.1.2.2.1
@[irreducible] noncomputable def E : Value → Shared → Prop := Ccut.1.2.2.2.1
@[irreducible] noncomputable def h₀ : Heap := Ccut.1.2.2.2.2.1
@[irreducible] noncomputable def L : Addr := Ccut.1.2.2.2.2.2
@[irreducible] noncomputable def m : Str → Option Value := Ccut.2.1.1
@[irreducible] noncomputable def env : Env := Ccut.2.1.2.1
@[irreducible] noncomputable def elt : Expr := Ccut.2.1.2.2.1
@[irreducible] noncomputable def iter : Expr := Ccut.2.1.2.2.2.1
@[irreducible] noncomputable def ifs : List Expr := Ccut.2.1.2.2.2.2.1
@[irreducible] noncomputable def x : Str := Ccut.2.1.2.2.2.2.2
@[irreducible] noncomputable def px : Pos := Ccut.2.2.1.1
@[irreducible] noncomputable def scope : Scope := Ccut.2.2.1.2.1
@[irreducible] noncomputable def cl : List (Str × Addr) := Ccut.2.2.1.2.2.1
@[irreducible] noncomputable def pos : Pos := Ccut.2.2.1.2.2.2.1
@[irreducible] noncomputable def s₁ : Shared := Ccut.2.2.1.2.2.2.2.1
@[irreducible] noncomputable def RR : Value → Addr → Result → Shared → Prop := Ccut.2.2.1.2.2.2.2.2
@[irreducible] noncomputable def news : List (Addr × Obj) := Ccut.2.2.2.1.1
@[irreducible] noncomputable def ax : Addr := Ccut.2.2.2.1.2.1
@[irreducible] noncomputable def vs : List Value := Ccut.2.2.2.1.2.2.1
@[irreducible] noncomputable def kk : Nat := Ccut.2.2.2.1.2.2.2.1
@[irreducible] noncomputable def I : Nat := Ccut.2.2.2.1.2.2.2.2.1
@[irreducible] noncomputable def H1 : Heap := Ccut.2.2.2.1.2.2.2.2.2
@[irreducible] noncomputable def H2 : Heap := Ccut.2.2.2.2.1
@[irreducible] noncomputable def H3 : Heap := Ccut.2.2.2.2.2.1
@[irreducible] noncomputable def H4 : Heap := Ccut.2.2.2.2.2.2
end
theorem at_cut : Pcut prog w A E h₀ L m env elt iter ifs x px scope cl pos s₁ RR news ax vs kk I H1 H2 H3 H4 := by
  intro α as IsIt pz V hkind hcf hpc hx hh F N hm hsz hpr tst el fin hl hlen hI hlt hH1 sz1 hH2 sz2 hH3 sz3 hH4 up1 up2 up3 up4 up gI gD gC gc
  have hLlt : @LT.lt Nat _ L I := hI ▸ F.ns.lt
  have hltI : @LT.lt Nat _ ax I := hlt
  have fresh₀ : ∀ a : Nat, I ≤ a → h₀.get? a = none := fun a ha => by
    cases e : h₀.get? a with
    | none => rfl
    | some o' =>
      have := Heap.lt_size (F.keep a o' e)
      rw [hI] at this
      exact absurd this (Nat.not_lt.mpr ha)
  have nlt : ∀ p ∈ news, @LT.lt Nat _ p.1 I := fun p hp => hI ▸ Heap.lt_size (N p hp).1
  have W := Walks.list (prog := prog) (w := w) hh I ax (Nat.ne_of_lt hlt) vs.toArray
  have st0 : H4.IsListIter I ax 0 ∧ H4.IsList ax vs.toArray := ⟨⟨_, gI, rfl, rfl⟩, hl.at fun o e => up _ _ e⟩
  have N0 : News h₀ L H4 ((I + 1 + 1, { cls := .type "dict", data := .dict #[] }) :: (I + 1 + 1 + 1, { cls := .type "cell", data := .cell none }) :: (I + 1, LCg.lst []) :: news) := fun p hp => by
    rcases List.mem_cons.mp hp with rfl | hp
    · exact ⟨gC, Nat.ne_of_gt (by show @LT.lt Nat _ L _; k_extra "n:c"), fresh₀ _ (by show @LE.le Nat _ I _; k_extra "n:c")⟩
    rcases List.mem_cons.mp hp with rfl | hp
    · exact ⟨gc, Nat.ne_of_gt (by show @LT.lt Nat _ L _; k_extra "n:c"), fresh₀ _ (by show @LE.le Nat _ I _; k_extra "n:c")⟩
    rcases List.mem_cons.mp hp with rfl | hp
    · exact ⟨gD, Nat.ne_of_gt (by show @LT.lt Nat _ L _; k_extra "n:c"), fresh₀ _ (by show @LE.le Nat _ I _; k_extra "n:c")⟩
    · exact ⟨up _ _ (N p hp).1, (N p hp).2⟩
  have loop : ∀ s₃ : Shared, s₃ = { s₁ with heap := H4 } →
      codeAny (model prog w) A (.compLoop (.ListComp elt [⟨.Name x px, iter, ifs, 0⟩] scope pos) 0 (.ref I) (.ref (I + 1)) (compEnvC scope ((x, I + 1 + 1 + 1) :: cl) (I + 1 + 1) env))
        (RR (.ref (I + 1)) (I + 1 + 1)) s₃ := by
    rintro s₃ rfl
    refine codeAny_compLoop_tests
      (fun k s' => ∃ h' tk i oc ov ys exs, s' = { s₁ with heap := h', toks := tk } ∧ i ≤ vs.length ∧ k = vs.length + 1 - i ∧ ys.length ≤ i ∧ (h'.IsListIter I ax i ∧ h'.IsList ax vs.toArray) ∧ Fr h₀ L h' m ∧
        News h₀ L h' ((I + 1 + 1, { cls := .type "dict", data := .dict #[] }) :: (I + 1 + 1 + 1, oc) :: (I + 1, LCg.lst ys) :: (exs ++ news)) ∧ oc.data = .cell ov ∧ Own V as news exs ∧ (∀ p ∈ exs ++ news, @Ne Nat p.1 I ∧ @Ne Nat p.1 (I + 1) ∧ @Ne Nat p.1 (I + 1 + 1) ∧ @Ne Nat p.1 (I + 1 + 1 + 1)) ∧ Paired (VIn V exs) ((as.take i).filter pz) ys) ?_ (vs.length + 1)
      ⟨H4, _, 0, _, _, [], [], rfl, Nat.zero_le _, rfl, Nat.le_refl _, st0, F.keeps up, N0, rfl, (List.forall_mem_nil _), fun p hp => ?_, by simp only [List.take_zero, List.filter_nil]; exact .nil⟩
    · rintro k s' ⟨h', tk, i, oc, ov, ys, exs, rfl, hi, rfl, hyl, st, F', N', hoc, hsub, hoff, hy⟩
      have offI : ∀ {oc oD : Obj}, ∀ p ∈ ((I + 1 + 1, { cls := .type "dict", data := .dict #[] }) :: (I + 1 + 1 + 1, oc) :: (I + 1, oD) :: (exs ++ news) : List (Addr × Obj)), p.1 ≠ I := fun p hp => by
        rcases List.mem_cons.mp hp with rfl | hp
        · exact Nat.ne_of_gt (by show @LT.lt Nat _ I _; k_extra "n:c")
        rcases List.mem_cons.mp hp with rfl | hp
        · exact Nat.ne_of_gt (by show @LT.lt Nat _ I _; k_extra "n:c")
        rcases List.mem_cons.mp hp with rfl | hp
        · exact Nat.ne_of_gt (by show @LT.lt Nat _ I _; k_extra "n:c")
        · exact (hoff p hp).1
      by_cases hlt' : i < vs.length
      · refine W.item i _ _ _ (by rw [List.size_toArray]; exact hlt') st fun v h₂ tk₂ hPv st₂ hk₂ => ?_
        obtain ⟨kk', hkx, hkv⟩ := paired_at hpr i v (by simpa using hPv)
        have hkm := List.mem_of_getElem? hkx
        have F₂ : Fr h₀ L h₂ m := LCg.fr_but F' hk₂ (Nat.ne_of_lt hLlt) (fresh₀ _ (Nat.le_refl _))
        have N₂ := LCg.news_but N' hk₂ offI
        have hcc : h₂.IsCell (I + 1 + 1 + 1) ov := ⟨oc, (N₂ _ (.tail _ (.head _))).1, hoc⟩
        refine wpAny_assign_Name (wpAny_storeName_cell hkind hx (by simp [compEnvC]) hcc fun h₃ hc₃ hs₃ => ?_)
        obtain ⟨oc₃, ec₃, dc₃⟩ := hc₃
        have F₃ : Fr h₀ L h₃ m := F₂.change hs₃ (Nat.ne_of_gt (by show @LT.lt Nat _ L _; k_extra "n:c")) (fresh₀ _ (by show @LE.le Nat _ I _; k_extra "n:c"))
        have hax : @Ne Nat ax (I + 1 + 1 + 1) := Nat.ne_of_lt (by show @LT.lt Nat _ ax _; k_extra "n:c")
        have st₃ : h₃.IsListIter I ax (i + 1) ∧ h₃.IsList ax vs.toArray :=
          ⟨st₂.1.at fun o e => (hs₃.2 _ (Nat.ne_of_lt (by show @LT.lt Nat _ I _; k_extra "n:c"))).trans e, st₂.2.at fun o e => (hs₃.2 _ hax).trans e⟩
        obtain ⟨oI, eI, cI, dI⟩ := st₃.1
        have N₃ : News h₀ L h₃ ((I, oI) :: (I + 1 + 1, { cls := .type "dict", data := .dict #[] }) :: (I + 1 + 1 + 1, oc₃) :: (I + 1, LCg.lst ys) :: (exs ++ news)) := fun p hp => by
          rcases List.mem_cons.mp hp with rfl | hp
          · exact ⟨eI, Nat.ne_of_gt hLlt, fresh₀ _ (Nat.le_refl _)⟩
          rcases List.mem_cons.mp hp with rfl | hp
          · have z := N₂ _ (.head _)
            exact ⟨(hs₃.2 _ (Nat.ne_of_lt (by show @LT.lt Nat _ (I + 1 + 1) (I + 1 + 1 + 1); k_extra "n:c"))).trans z.1, z.2⟩
          rcases List.mem_cons.mp hp with rfl | hp
          · exact ⟨ec₃, (N₂ _ (.tail _ (.head _))).2⟩
          · have z := N₂ p (.tail _ (.tail _ hp))
            refine ⟨(hs₃.2 _ ?_).trans z.1, z.2⟩
            rcases List.mem_cons.mp hp with rfl | hp
            · exact Nat.ne_of_lt (by show @LT.lt Nat _ (I + 1) (I + 1 + 1 + 1); k_extra "n:c")
            · exact (hoff p hp).2.2.2
        refine wpAny_mono (tst kk' v I oI _ _ _ oc₃ _ ys exs h₃ _ _ hkm hkv dc₃ hsub F₃ N₃) (fun ok s₄ hq => ?_) fun _ _ e => e
        obtain ⟨rfl, h₄, tk₄, rfl, F₄, N₄⟩ := hq
        have zI := N₄ (I, oI) (.head _)
        have st₄ : h₄.IsListIter I ax (i + 1) ∧ h₄.IsList ax vs.toArray := ⟨⟨oI, zI.1, cI, dI⟩, ⟨_, (N₄ (ax, ({ cls := .type "list", data := .seq vs.toArray kk } : Obj)) (List.mem_append_right _ (List.mem_append_right _ hm))).1, rfl, kk, rfl⟩⟩
        cases hpz : pz kk' with
        | false =>
          simp only [Bool.false_eq_true, if_false]
          refine ⟨vs.length + 1 - (i + 1), cnt_down (by assumption), h₄, tk₄, i + 1, oc₃, some v, ys, exs, rfl, hlt', rfl, Nat.le_succ_of_le hyl, st₄, F₄, (fun p hp => N₄ p (.tail _ hp)), dc₃, hsub, hoff, ?_⟩
          rw [List.take_add_one, hkx]
          simp only [Option.toList, List.filter_append]
          rw [show [kk'].filter pz = [] by simp [hpz], List.append_nil]
          exact hy
        | true =>
          simp only [if_true]
          refine wpAny_mono (el kk' v I oI _ _ _ oc₃ _ ys exs h₄ _ _ hkm hkv dc₃ hsub F₄ N₄ hpz) (fun y s₅ hq => ?_) fun _ _ e => e
          obtain ⟨ex, h₅, tk₅, rfl, F₅, N₅, hVy, hexo⟩ := hq
          have zD := N₅ (I + 1, LCg.lst ys) (.tail _ (.tail _ (.tail _ (.head _))))
          have zI5 := N₅ (I, oI) (.head _)
          refine append_at (hsz := by show ys.toArray.size ≤ sizeLine; rw [List.size_toArray]; exact Nat.le_trans (Nat.le_trans hyl hi) hsz) zD.1 fun h₆ hs₆ hD₆ => ?_
          have hexo' : ∀ p ∈ ex, @Ne Nat p.1 I ∧ @Ne Nat p.1 (I + 1) ∧ @Ne Nat p.1 (I + 1 + 1) ∧ @Ne Nat p.1 (I + 1 + 1 + 1) := fun p hp => ⟨hexo p hp _ (.head _), hexo p hp _ (.tail _ (.tail _ (.tail _ (.head _)))), hexo p hp _ (.tail _ (.head _)), hexo p hp _ (.tail _ (.tail _ (.head _)))⟩
          have key : ∀ q ∈ ((I, oI) :: (I + 1 + 1, { cls := .type "dict", data := .dict #[] }) :: (I + 1 + 1 + 1, oc₃) :: (I + 1, LCg.lst ys) :: (ex ++ (exs ++ news)) : List (Addr × Obj)), @Ne Nat q.1 (I + 1) → h₆.get? q.1 = some q.2 ∧ q.1 ≠ L ∧ h₀.get? q.1 = none := fun q hq hne => ⟨(hs₆.2 _ hne).trans (N₅ q hq).1, (N₅ q hq).2⟩
          have N₆ : News h₀ L h₆ ((I + 1 + 1, { cls := .type "dict", data := .dict #[] }) :: (I + 1 + 1 + 1, oc₃) :: (I + 1, LCg.lst (ys ++ [y])) :: (ex ++ (exs ++ news))) := fun p hp => by
            rcases List.mem_cons.mp hp with rfl | hp
            · exact key _ (.tail _ (.head _)) (Nat.ne_of_gt (by show @LT.lt Nat _ (I + 1) (I + 1 + 1); k_extra "n:c"))
            rcases List.mem_cons.mp hp with rfl | hp
            · exact key _ (.tail _ (.tail _ (.head _))) (Nat.ne_of_gt (by show @LT.lt Nat _ (I + 1) (I + 1 + 1 + 1); k_extra "n:c"))
            rcases List.mem_cons.mp hp with rfl | hp
            · exact ⟨hD₆.trans (congrArg some (LCg.lst_snoc ys y)), zD.2⟩
            · refine key _ (.tail _ (.tail _ (.tail _ (.tail _ hp)))) ?_
              exact (List.mem_append.mp hp).elim (fun h => (hexo' p h).2.1) fun h => (hoff p h).2.1
          refine ⟨vs.length + 1 - (i + 1), cnt_down (by assumption), h₆, tk₅, i + 1, oc₃, some v, ys ++ [y], ex ++ exs, rfl, hlt', rfl, by rw [List.length_append, List.length_singleton]; exact Nat.succ_le_succ hyl, ⟨⟨oI, (hs₆.2 _ (Nat.ne_of_lt (by show @LT.lt Nat _ I (I + 1); k_extra "n:c"))).trans zI5.1, cI, dI⟩, ⟨_, (key (ax, ({ cls := .type "list", data := .seq vs.toArray kk } : Obj)) (.tail _ (.tail _ (.tail _ (.tail _ (List.mem_append_right _ (List.mem_append_right _ hm)))))) (Nat.ne_of_lt (by show @LT.lt Nat _ ax (I + 1); k_extra "n:c"))).1, rfl, kk, rfl⟩⟩, F₅.change hs₆ zD.2.1 zD.2.2, by rw [List.append_assoc]; exact N₆, dc₃, hsub.more hkm hVy (fun p hp q hq => hexo p hp q (by simp [hq])), fun p hp => by rw [List.append_assoc] at hp; exact (List.mem_append.mp hp).elim (hexo' p) (hoff p), ?_⟩
          · rw [List.take_add_one, hkx]
            simp only [Option.toList, List.filter_append]
            rw [show [kk'].filter pz = [kk'] by simp [hpz]]
            exact (Paired.mono' (fun k y ⟨e, h1, h2⟩ => ⟨e, h1, fun p hp => List.mem_append_right _ (h2 p hp)⟩) hy).snoc ⟨ex, hVy, fun p hp => List.mem_append_left _ hp⟩
      · obtain rfl : i = vs.length := Nat.le_antisymm hi (Nat.not_lt.mp hlt')
        refine W.done _ _ _ (by rw [List.size_toArray]; exact st) fun h₂ tk₂ hk₂ => ?_
        have F₂ : Fr h₀ L h₂ m := LCg.fr_but F' hk₂ (Nat.ne_of_lt hLlt) (fresh₀ _ (Nat.le_refl _))
        have N₂ := LCg.news_but N' hk₂ offI
        have zC := N₂ _ (.head _)
        rw [← hlen, List.take_length] at hy
        exact fin (I + 1) (I + 1 + 1) h₂ tk₂ ys exs F₂ (fun p hp => N₂ p (.tail _ (.tail _ hp))) hsub hy (fun p hp => (hoff p hp).2.1) ⟨_, #[], 0, zC.1, rfl, fun _ he => by simp at he, fun _ => rfl⟩ zC.2.2 zC.2.1 (Nat.ne_of_lt (by show @LT.lt Nat _ (I + 1) (I + 1 + 1); k_extra "n:c")) fun p hp => (hoff p hp).2.2.1
    · have := nlt p hp
      exact ⟨neN (by k_extra "n:c"), neN (by k_extra "n:c"), neN (by k_extra "n:c"), neN (by k_extra "n:c")⟩
  exact codeAny_compStart_list (loop _ rfl) (W.self 0 _ _ _ st0 (loop _ rfl))
theorem all_cut : ∀ prog w A E h₀ L m env elt iter ifs x px scope cl pos s₁ RR news ax vs kk I H1 H2 H3 H4, Pcut prog w A E h₀ L m env elt iter ifs x px scope cl pos s₁ RR news ax vs kk I H1 H2 H3 H4 := by
  have h : Pcut prog w A E h₀ L m env elt iter ifs x px scope cl pos s₁ RR news ax vs kk I H1 H2 H3 H4 := at_cut
  delta prog w A E h₀ L m env elt iter ifs x px scope cl pos s₁ RR news ax vs kk I H1 H2 H3 H4 at h
  exact fun prog w A E h₀ L m env elt iter ifs x px scope cl pos s₁ RR news ax vs kk I H1 H2 H3 H4 => Classical.choose_spec ex_cut h ((prog, w, A, E, h₀, L), (m, env, elt, iter, ifs, x), (px, scope, cl, pos, s₁, RR), (news, ax, vs, kk, I, H1), (H2, H3, H4))
end K_lcC_block
theorem lcC_block : type_of% (@Subtype.property _ _ K_lcC_block.cut (no_implicit_lambda% K_lcC_block.all_cut)) := no_implicit_lambda% (@Subtype.property _ _ K_lcC_block.cut (no_implicit_lambda% K_lcC_block.all_cut))
section
variable {prog : Program} {w : World} {A : Around} {E : Value → Shared → Prop} {s : Shared} {h₀ : Heap} {L : Addr} {m : Str → Option Value} {env : Env} {α : Type}
inductive LcC.Src (α : Type) (prog : Program) (w : World) (A : Around) (h₀ : Heap) (L : Addr) (m : Str → Option Value) (env : Env) (elt : PySem.Expr) (ifs : List PySem.Expr) (x : Str) (scope : Scope) (cl : List (Str × Addr)) (Q : Value → Shared → Prop) (xv : Value) (s₁ : Shared) : Prop
  | mk (news : List (Addr × Obj)) (ax : Addr) (vs : List Value) (kk : Nat) (as : List α) (IsIt : α → Value → Prop) (pz : α → Bool) (V : α → Value → List (Addr × Obj) → Prop)
    (h0 : xv = .ref ax)
    (h1 : A.handled = none)
    (h2 : Fr h₀ L s₁.heap m)
    (h3 : News h₀ L s₁.heap news)
    (h4 : (ax, ({ cls := .type "list", data := .seq vs.toArray kk } : Obj)) ∈ news)
    (h5 : vs.length ≤ sizeLine)
    (h6 : Paired IsIt as vs)
    (h7 : (∀ k v I oI C oC c oc D ys exs h tk (E' : Value → Shared → Prop), k ∈ as → IsIt k v → oc.data = .cell (some v) → Own V as news exs → Fr h₀ L h m → News h₀ L h ((I, oI) :: (C, oC) :: (c, oc) :: (D, LCg.lst ys) :: (exs ++ news)) → TestsK prog w A h₀ L m s₁ ifs (compEnvC scope ((x, c) :: cl) C env) [(I, oI), (C, oC), (c, oc), (D, LCg.lst ys)] (exs ++ news) (pz k) E' h tk))
    (h8 : (∀ k v I oI C oC c oc D ys exs h tk (E' : Value → Shared → Prop), k ∈ as → IsIt k v → oc.data = .cell (some v) → Own V as news exs → Fr h₀ L h m → News h₀ L h ((I, oI) :: (C, oC) :: (c, oc) :: (D, LCg.lst ys) :: (exs ++ news)) → pz k = true → ElK prog w A h₀ L m s₁ elt (compEnvC scope ((x, c) :: cl) C env) [(I, oI), (C, oC), (c, oc), (D, LCg.lst ys)] (exs ++ news) (V k) E' h tk))
    (h9 : (∀ D h' tk ys exs, Fr h₀ L h' m → News h₀ L h' ((D, LCg.lst ys) :: (exs ++ news)) → Own V as news exs → Paired (VIn V exs) (as.filter pz) ys → (∀ p ∈ exs ++ news, @Ne Nat p.1 D) → Q (.ref D) { s₁ with heap := h', toks := tk }))
    : LcC.Src α prog w A h₀ L m env elt ifs x scope cl Q xv s₁
/-- a list comprehension over a list of the ledger whose one name is a cell of its own -/
theorem lcC {elt iter : PySem.Expr} {ifs : List PySem.Expr} {x : Str} {px : Pos} {scope : Scope} {cl : List (Str × Addr)} {pos : Pos} {Q : Value → Shared → Prop} (_F₀ : Fr h₀ L s.heap m)
    (hclos : closureFor scope env = pure cl) (hkind : scope.kind = .function)
    (hnames : ∀ y ∈ scope.names, y.2 = .local → scope.names.lookup y.1 = some .local)
    (hcf : ∀ n, cellsFrom n scope.names cl = (x, n) :: cl) (hpc : ∀ h : Heap, pushCells h scope.names = h.push { cls := .type "cell", data := .cell none })
    (hx : (relabel scope env).names.lookup x = some .cell)
    (h : wpAny (model prog w) A (eval iter env) (LcC.Src α prog w A h₀ L m env elt ifs x scope cl Q) E s)
    (hs : ∀ x, foldedSetIterable iter env x = pure x := by intro _; rfl) :
    wpAny (model prog w) A (eval (.ListComp elt [⟨.Name x px, iter, ifs, 0⟩] scope pos) env) Q E s := by
  rw [eval_ListComp]
  refine wpAny_comprehension_free (use := none) rfl hs hclos hkind hnames (wpAny_mono h (fun xv s₁ h₁ => ?_) fun _ _ e => e)
  obtain ⟨news, ax, vs, kk, as, IsIt, pz, V, rfl, hh, F, N, hm, hsz, hpr, tst, el, fin⟩ := h₁
  refine lcC_block hkind hcf hpc hx hh F N hm hsz hpr tst el fun D C h' tk ys exs F' N' hsub hy hD hns hC₀ hCL hDC hC => ?_
  refine ⟨_, hns, fun h'' hs'' => fin D h'' tk ys exs (F'.change hs'' hCL hC₀) (fun p hp => ?_) hsub hy hD⟩
  refine ⟨(hs''.2 _ ?_).trans (N' p hp).1, (N' p hp).2⟩
  rcases List.mem_cons.mp hp with rfl | hp
  · exact hDC
  · exact hC p hp
inductive LcCA.Src (α : Type) (prog : Program) (w : World) (A : Around) (h₀ : Heap) (L : Addr) (m : Str → Option Value) (env : Env) (elt : PySem.Expr) (ifs : List PySem.Expr) (x : Str) (scope : Scope) (cl : List (Str × Addr)) (y : Str) (Q : Flow → Shared → Prop) (xv : Value) (s₁ : Shared) : Prop
  | mk (news : List (Addr × Obj)) (ax : Addr) (vs : List Value) (kk : Nat) (as : List α) (IsIt : α → Value → Prop) (pz : α → Bool) (V : α → Value → List (Addr × Obj) → Prop)
    (h0 : xv = .ref ax)
    (h1 : A.handled = none)
    (h2 : Fr h₀ L s₁.heap m)
    (h3 : News h₀ L s₁.heap news)
    (h4 : (ax, ({ cls := .type "list", data := .seq vs.toArray kk } : Obj)) ∈ news)
    (h5 : vs.length ≤ sizeLine)
    (h6 : Paired IsIt as vs)
    (h7 : (∀ k v I oI C oC c oc D ys exs h tk (E' : Value → Shared → Prop), k ∈ as → IsIt k v → oc.data = .cell (some v) → Own V as news exs → Fr h₀ L h m → News h₀ L h ((I, oI) :: (C, oC) :: (c, oc) :: (D, LCg.lst ys) :: (exs ++ news)) → TestsK prog w A h₀ L m s₁ ifs (compEnvC scope ((x, c) :: cl) C env) [(I, oI), (C, oC), (c, oc), (D, LCg.lst ys)] (exs ++ news) (pz k) E' h tk))
    (h8 : (∀ k v I oI C oC c oc D ys exs h tk (E' : Value → Shared → Prop), k ∈ as → IsIt k v → oc.data = .cell (some v) → Own V as news exs → Fr h₀ L h m → News h₀ L h ((I, oI) :: (C, oC) :: (c, oc) :: (D, LCg.lst ys) :: (exs ++ news)) → pz k = true → ElK prog w A h₀ L m s₁ elt (compEnvC scope ((x, c) :: cl) C env) [(I, oI), (C, oC), (c, oc), (D, LCg.lst ys)] (exs ++ news) (V k) E' h tk))
    (h9 : (∀ D h' tk ys exs, Fr h₀ L h' (fun z => if z = y then some (.ref D) else m z) → News h₀ L h' ((D, LCg.lst ys) :: (exs ++ news)) → Own V as news exs → Paired (VIn V exs) (as.filter pz) ys → (∀ p ∈ exs ++ news, @Ne Nat p.1 D) → Q .next { s₁ with heap := h', toks := tk }))
    : LcCA.Src α prog w A h₀ L m env elt ifs x scope cl y Q xv s₁
/-- the same, stored under a name -/
theorem lcCA {elt iter : PySem.Expr} {ifs : List PySem.Expr} {x : Str} {px : Pos} {scope : Scope} {cl : List (Str × Addr)} {pos : Pos} {y : Str} {py spos : Pos} {Q : Flow → Shared → Prop} (_F₀ : Fr h₀ L s.heap m) (hLe : env.locals = L)
    (hsw : swapsWith (.ListComp elt [⟨.Name x px, iter, ifs, 0⟩] scope pos) (some (.Name y py)) spos.line env = pure true) (hy : env.kindOf y = some .local) (hp : (env.scope.kind == .class || (env.scope.kind == .module && env.locals != env.globals)) = false)
    (hclos : closureFor scope env = pure cl) (hkind : scope.kind = .function)
    (hnames : ∀ y ∈ scope.names, y.2 = .local → scope.names.lookup y.1 = some .local)
    (hcf : ∀ n, cellsFrom n scope.names cl = (x, n) :: cl) (hpc : ∀ h : Heap, pushCells h scope.names = h.push { cls := .type "cell", data := .cell none })
    (hx : (relabel scope env).names.lookup x = some .cell)
    (h : wpAny (model prog w) A (eval iter env) (LcCA.Src α prog w A h₀ L m env elt ifs x scope cl y Q) E s)
    (hs : ∀ x, foldedSetIterable iter env x = pure x := by intro _; rfl) :
    wpAny (model prog w) A (exec (.Assign [.Name y py] (.ListComp elt [⟨.Name x px, iter, ifs, 0⟩] scope pos) spos) env) Q E s := by
  subst hLe
  rw [exec_Assign_Name_used _ _ _ _ hsw]
  refine wpAny_bind (wpAny_standAt (wpAny_bind ?_))
  show wpAny _ A (do let _ ← comprehension (.ListComp elt [⟨.Name x px, iter, ifs, 0⟩] scope pos) scope env _ (newList []) false (eval iter env) (some (assign (.Name y py) env))) _ _ s
  refine wpAny_bind (wpAny_mono (wpAny_comprehension_free (use := some (assign (.Name y py) env)) (Q := fun _ s' => Q .next s') rfl hs hclos hkind hnames
    (wpAny_mono h (fun xv s₁ h₁ => ?_) fun _ _ e => e)) (fun _ s' hq => wpAny_pure (wpAny_pure hq)) fun _ _ e => e)
  obtain ⟨news, ax, vs, kk, as, IsIt, pz, V, rfl, hh, F, N, hm, hsz, hpr, tst, el, fin⟩ := h₁
  refine lcC_block hkind hcf hpc hx hh F N hm hsz hpr tst el fun D C h' tk ys exs F' N' hsub hyy hD hns hC₀ hCL hDC hC => ?_
  show wpAny _ A (assign (.Name y py) env (.ref D)) _ _ _
  refine wpAny_assign_Name (wpAny_storeName_local hy F'.ns (fun h₂ hn₂ hs₂ => ?_) hp)
  have hL₀ : h₀.get? env.locals = none := Heap.get?_none_of_le F'.above
  have F₂ : Fr h₀ env.locals h₂ (fun z => if z = y then some (.ref D) else m z) := ⟨hn₂, fun b o e => hs₂.extBut b o (fun q => by rw [q, hL₀] at e; cases e) (F'.keep b o e), F'.above⟩
  refine ⟨_, hns.sameBut hs₂ hCL, fun h'' hs'' => fin D h'' _ ys exs (F₂.change hs'' hCL hC₀) (fun p hp => ?_) hsub hyy hD⟩
  have z : h₂.get? p.1 = some p.2 := hs₂.extBut _ _ (N' p hp).2.1 (N' p hp).1
  refine ⟨hs''.extBut _ _ ?_ z, (N' p hp).2⟩
  rcases List.mem_cons.mp hp with rfl | hp
  · exact hDC
  · exact hC p hp
end
end Mine
end
section
open PySem PySem.W PyProof.Rows PySem.Spec PySem.Calls
set_option maxRecDepth 100000
namespace Mine
section
variable {prog : Program} {w : World} {A : Around} {E : Value → Shared → Prop} {s : Shared} {h₀ : Heap} {L : Addr} {m : Str → Option Value} {env : Env} {α : Type}
end
namespace K_lcZ_block
noncomputable def cut : (@Subtype (Prop) fun P => P → ∀ {prog : Program} {w : World} {A : Around} {E : Value → Shared → Prop} {h₀ : Heap} {L : Addr} {m : Str → Option Value} {env : Env} {α : Type} {elt iter : PySem.Expr} {x x₂ : Str} {px px₂ tp : Pos} {tkk} {scope : Scope} {cl : List (Str × Addr)} {pos : Pos} {s₁ : Shared} {RR : Value → Addr → Result → Shared → Prop} {I : Addr} {fp wr : List Addr} {n : Nat} {Pt : Nat → Array Value → Prop} {St : Nat → Heap → Prop} {Mid : Nat → Addr → Heap → Prop} {news : List (Addr × Obj)} {as : List α} {It : α → Value → Value → Prop} {V : α → Value → Prop} (hcell : ∀ y ∈ scope.names, y.2 ≠ .cell) (hkind : scope.kind = .function) (hx : scope.names.lookup x = some .local) (hx₂ : scope.names.lookup x₂ = some .local) (hxx : x ≠ x₂) (hh : A.handled = none) (W : WalksT prog w A I fp wr n Pt St Mid) (hst : St 0 s₁.heap) (hfp : ∀ b ∈ fp, b < s₁.heap.objs.size) (hLf : L ∉ fp) (hwr : ∀ b ∈ wr, h₀.get? b = none) (hnw : ∀ p ∈ news, p.1 ∉ wr) (F : Fr h₀ L s₁.heap m) (N : News h₀ L s₁.heap news) (hn : as.length = n) (hsz : n ≤ sizeLine) (hPt : ∀ i vals, i < n → Pt i vals → ∃ k v₁ v₂, as[i]? = some k ∧ vals = #[v₁, v₂] ∧ It k v₁ v₂) (el : ∀ k v₁ v₂ C oC D m₂ ys own h tk (E' : Value → Shared → Prop), k ∈ as → It k v₁ v₂ → LCg.NsObj oC m₂ → m₂ x = some v₁ → m₂ x₂ = some v₂ → Fr h₀ L h m → News h₀ L h ((C, oC) :: (D, LCg.lst ys) :: (own ++ news)) →
        wpAny (model prog w) A (eval elt (compEnvC scope cl C env)) (fun y s' => V k y ∧ ∃ h' tk', s' = { s₁ with heap := h', toks := tk' } ∧ Fr h₀ L h' m ∧ News h₀ L h' ((C, oC) :: (D, LCg.lst ys) :: (own ++ news))) E' { s₁ with heap := h, toks := tk }) (fin : ∀ D C h' tk ys, Fr h₀ L h' m → News h₀ L h' ((D, LCg.lst ys) :: news) → Paired V as ys → (∀ p ∈ news, @LT.lt Nat _ p.1 D) → (∃ m', h'.Ns C m') → h₀.get? C = none → @Ne Nat C L → @Ne Nat D C → (∀ p ∈ news, @Ne Nat p.1 C) → RR (.ref D) C (.ok .next) { s₁ with heap := h', toks := tk }), wpAny (model prog w) A (pyIter (.ref I)) (fun it s₂ => wpAny (model prog w) A (newList []) (fun acc s₃ => wpAny (model prog w) A (newFunctionEnv scope env.globals cl [] env.qual none .none (some env)) (fun cenv s₄ =>
      codeAny (model prog w) A (.compStart (.ListComp elt [⟨.Tuple [.Name x px, .Name x₂ px₂] tkk tp, iter, [], 0⟩] scope pos) 0 it acc { cenv with scope := relabel scope env }) (RR acc cenv.locals) s₄) E s₃) E s₂) E s₁) := by
  refine' mkCut fun hole0 => ?_
  rotate_left
  focus
  intro prog w A E h₀ L m env α elt iter x x₂ px px₂ tp tkk scope cl pos s₁ RR I fp wr n Pt St Mid news as It V hcell hkind hx hx₂ hxx hh W hst hfp hLf hwr hnw F N hn hsz hPt el fin
  refine W.self 0 _ _ _ hst ?_
  refine wpAny_newObj_type (wpAny_newFunctionEnv hcell (by intro y hy; simp at hy) (fun h₁ hns₁ hsb₁ => ?_) hkind)
  dsimp only at hns₁ hsb₁ ⊢
  generalize hH2 : s₁.heap.push { cls := .type "list", dict := none, data := .seq ([] : List Value).toArray } = H2 at hns₁ hsb₁ ⊢
  generalize hDD : s₁.heap.objs.size = D at *
  have hC : H2.objs.size = D + 1 := by rw [← hH2, Heap.size_push, hDD]
  generalize hCC : H2.objs.size = C at *
  subst hC
  have hDC : @Ne Nat D (D + 1) := Nat.ne_of_lt (Nat.lt_succ_self _)
  have old : ∀ b o, s₁.heap.get? b = some o → h₁.get? b = some o := fun b o e => hsb₁.extBut b o (by have := Heap.lt_size e; rw [hDD] at this; exact Nat.ne_of_lt (Nat.lt_succ_of_lt this)) (Heap.get?_push_of_some _ (hH2 ▸ Heap.get?_push_of_some _ e))
  have hacc : h₁.get? D = some (LCg.lst []) := hsb₁.extBut _ _ hDC (Heap.get?_push_of_some _ (hH2 ▸ hDD ▸ Heap.get?_push_size _ rfl))
  have hst₁ : St 0 h₁ := W.frame _ _ _ hst fun b _ o e => old b o e
  have fresh₀ : ∀ a : Nat, D ≤ a → h₀.get? a = none := fun a ha => by
    cases e : h₀.get? a with
    | none => rfl
    | some o' =>
      have := Heap.lt_size (F.keep a o' e)
      rw [hDD] at this
      exact absurd this (Nat.not_lt.mpr ha)
  revert hcell hkind hx hx₂ hxx hh W hst hLf hwr hnw F N hn hsz hPt el fin hH2 hDD hfp hCC hns₁ hsb₁ hDC old hacc hst₁ fresh₀
  revert α as It V
  revert prog w A E h₀ L m env elt iter x x₂ px px₂ tp tkk scope cl pos s₁ RR I fp wr n Pt St Mid news h₁ H2 D
  exact no_implicit_lambda% hole0.get
noncomputable section
noncomputable def Pcut : (Program) → (World) → (Around) → (Value → Shared → Prop) → (Heap) → (Addr) → (Str → Option Value) → (Env) → (Expr) → (Expr) → (Str) → (Str) → (Pos) → (Pos) → (Pos) → (Nat) → (Scope) → (List (Str × Addr)) → (Pos) → (Shared) → (Value → Addr → Result → Shared → Prop) → (Addr) → (List Addr) → (List Addr) → (Nat) → (Nat → Array Value → Prop) → (Nat → Heap → Prop) → (Nat → Addr → Heap → Prop) → (List (Addr × Obj)) → (Heap) → (Heap) → (Nat) → Prop := (@id (∀ {Rcut : (Program) → (World) → (Around) → (Value → Shared → Prop) → (Heap) → (Addr) → (Str → Option Value) → (Env) → (Expr) → (Expr) → (Str) → (Str) → (Pos) → (Pos) → (Pos) → (Nat) → (Scope) → (List (Str × Addr)) → (Pos) → (Shared) → (Value → Addr → Result → Shared → Prop) → (Addr) → (List Addr) → (List Addr) → (Nat) → (Nat → Array Value → Prop) → (Nat → Heap → Prop) → (Nat → Addr → Heap → Prop) → (List (Addr × Obj)) → (Heap) → (Heap) → (Nat) → Prop}, cut.1 = (∀ prog w A E h₀ L m env elt iter x x₂ px px₂ tp tkk scope cl pos s₁ RR I fp wr n Pt St Mid news h₁ H2 D, Rcut prog w A E h₀ L m env elt iter x x₂ px px₂ tp tkk scope cl pos s₁ RR I fp wr n Pt St Mid news h₁ H2 D) → _) fun {Rcut} _ => Rcut) rfl
noncomputable def Tcut : Type := (Program × World × Around × (Value → Shared → Prop) × Heap × Addr) × ((Str → Option Value) × Env × Expr × Expr × Str × Str) × (Pos × Pos × Pos × Nat × Scope × (List (Str × Addr))) × (Pos × Shared × (Value → Addr → Result → Shared → Prop) × Addr × (List Addr) × (List Addr)) × (Nat × (Nat → Array Value → Prop) × (Nat → Heap → Prop) × (Nat → Addr → Heap → Prop) × (List (Addr × Obj)) × Heap) × (Heap × Nat)
noncomputable def Qcut (x : Tcut) : Prop := Pcut x.1.1 x.1.2.1 x.1.2.2.1 x.1.2.2.2.1 x.1.2.2.2.2.1 x.1.2.2.2.2.2 x.2.1.1 x.2.1.2.1 x.2.1.2.2.1 x.2.1.2.2.2.1 x.2.1.2.2.2.2.1 x.2.1.2.2.2.2.2 x.2.2.1.1 x.2.2.1.2.1 x.2.2.1.2.2.1 x.2.2.1.2.2.2.1 x.2.2.1.2.2.2.2.1 x.2.2.1.2.2.2.2.2 x.2.2.2.1.1 x.2.2.2.1.2.1 x.2.2.2.1.2.2.1 x.2.2.2.1.2.2.2.1 x.2.2.2.1.2.2.2.2.1 x.2.2.2.1.2.2.2.2.2 x.2.2.2.2.1.1 x.2.2.2.2.1.2.1 x.2.2.2.2.1.2.2.1 x.2.2.2.2.1.2.2.2.1 x.2.2.2.2.1.2.2.2.2.1 x.2.2.2.2.1.2.2.2.2.2 x.2.2.2.2.2.1 x.2.2.2.2.2.2
theorem ex_cut : ∃ x : Tcut, Qcut x → ∀ y, Qcut y := by
  haveI := neW; haveI := neA; haveI := neS
  haveI : Nonempty Tcut := by unfold Tcut; set_option synthInstance.maxSize 2000 in infer_instance
  exact henk1 Qcut
noncomputable def Ccut : Tcut := Classical.choose ex_cut
@[irreducible] noncomputable def prog : Program := Ccut.1.1
@[irreducible] noncomputable def w : World := Ccut.1.2.1
@[irreducible] noncomputable def A : Around := Ccut.1.2.2.1
@[irreducible] noncomputable def E : Value → Shared → Prop := Ccut.1.2.2.2.1
@[irreducible] noncomputable def h₀ : Heap := Ccut.1.2.2.2.2.1
@[irreducible] noncomputable def L : Addr := Ccut.1.2.2.2.2.2
@[irreducible] noncomputable def m : Str → Option Value := Ccut.2.1.1
@[irreducible] noncomputable def env : Env := Ccut.2.1.2.1
@[irreducible] noncomputable def elt : Expr := Ccut.2.1.2.2.1
@[irreducible] noncomputable def iter : Expr := Ccut.2.1.2.2.2.1
@[irreducible] noncomputable def x : Str := Ccut.2.1.2.2.2.2.1
@[irreducible] noncomputable def x₂ : Str := Ccut.2.1.2.2.2.2.2
@[irreducible] noncomputable def px : Pos := Ccut.2.2.1.1
@[irreducible] noncomputable def px₂ : Pos := Ccut.2.2.1.2.1
@[irreducible] noncomputable def tp : Pos := Ccut.2.2.1.2.2.1
@[irreducible] noncomputable def tkk : Nat := Ccut.2.2.1.2.2.2.1
@[irreducible] noncomputable def scope : Scope := Ccut.2.2.1.2.2.2.2.1
@[irreducible] noncomputable def cl : List (Str × Addr) := Ccut.2.2.1.2.2.2.2.2
@[irreducible] noncomputable def pos : Pos := Ccut.2.2.2.1.1
@[irreducible] noncomputable def s₁ : Shared := Ccut.2.2.2.1.2.1
@[irreducible] noncomputable def RR : Value → Addr → Result → Shared → Prop := Ccut.2.2.2.1.2.2.1
@[irreducible] noncomputable def I : Addr := Ccut.2.2.2.1.2.2.2.1
@[irreducible] noncomputable def fp : List Addr := Ccut.2.2.2.1.2.2.2.2.1
@[irreducible] noncomputable def wr : List Addr := Ccut.2.2.2.1.2.2.2.2.2
@[irreducible] noncomputable def n : Nat := Ccut.2.2.2.2.1.1
@[irreducible] noncomputable def Pt : Nat → Array Value → Prop := Ccut.2.2.2.2.1.2.1
@[irreducible] noncomputable def St : Nat → Heap → Prop := Ccut.2.2.2.2.1.2.2.1
@[irreducible] noncomputable def Mid : Nat → Addr → Heap → Prop := Ccut.2.2.2.2.1.2.2.2.1
@[irreducible] noncomputable def news : List (Addr × Obj) := Ccut.2.2.2.2.1.2.2.2.2.1
@[irreducible] noncomputable def h₁ : Heap := Ccut.2.2.2.2.1.2.2.2.2.2
@[irreducible] noncomputable def H2 : Heap := Ccut.2.2.2.2.2.1
@[irreducible] noncomputable def D : Nat := Ccut.2.2.2.2.2.2
end
theorem at_cut : Pcut prog w A E h₀ L m env elt iter x x₂ px px₂ tp tkk scope cl pos s₁ RR I fp wr n Pt St Mid news h₁ H2 D := by
  intro α as It V hcell hkind hx hx₂ hxx hh W hst hLf hwr hnw F N hn hsz hPt el fin hH2 hDD hfp hCC hns₁ hsb₁ hDC old hacc hst₁ fresh₀
  have hLlt : @LT.lt Nat _ L D := hDD ▸ F.ns.lt
  have hDL : @Ne Nat D L := Nat.ne_of_gt hLlt
  have hCL : @Ne Nat (D + 1) L := Nat.ne_of_gt (Nat.lt_succ_of_lt hLlt)
  have nlt : ∀ p ∈ news, @LT.lt Nat _ p.1 D := fun p hp => hDD ▸ Heap.lt_size (N p hp).1
  have hDf : D ∉ fp := fun hm => Nat.lt_irrefl _ (hfp _ hm)
  have hCf : D + 1 ∉ fp := fun hm => Nat.lt_irrefl _ (Nat.lt_of_succ_lt (hfp _ hm))
  have hDw : D ∉ wr := fun hm => hDf (W.sub _ hm)
  have hCw : D + 1 ∉ wr := fun hm => hCf (W.sub _ hm)
  have hLw : L ∉ wr := fun hm => hLf (W.sub _ hm)
  have loop : ∀ s₃ : Shared, s₃ = { s₁ with heap := h₁, toks := s₁.toks + ([] : List (Str × Value)).length } →
      codeAny (model prog w) A (.compLoop (.ListComp elt [⟨.Tuple [.Name x px, .Name x₂ px₂] tkk tp, iter, [], 0⟩] scope pos) 0 (.ref I) (.ref D) (compEnvC scope cl (D + 1) env))
        (RR (.ref D) (D + 1)) s₃ := by
    rintro s₃ rfl
    refine LCp.codeAny_compLoop_pair
      (fun k s' => ∃ h' tk i ys m', s' = { s₁ with heap := h', toks := tk } ∧ i ≤ n ∧ k = n + 1 - i ∧ ys.length = i ∧ St i h' ∧ Fr h₀ L h' m ∧ h'.Ns (D + 1) m' ∧ News h₀ L h' ((D, LCg.lst ys) :: news) ∧ Paired V (as.take i) ys) ?_ (n + 1)
      ⟨h₁, _, 0, [], _, rfl, Nat.zero_le _, rfl, rfl, hst₁, F.keeps old, hns₁, fun p hp => ?_, by simp only [List.take_zero]; exact .nil⟩
    · rintro k s' ⟨h', tk, i, ys, m', rfl, hi, rfl, hyl, hst', F', hn', N', hy⟩
      have kpF : ∀ {h₂ : Heap}, (∀ b o, b ∉ wr → h'.get? b = some o → h₂.get? b = some o) → Fr h₀ L h₂ m := fun {h₂} hk =>
        ⟨F'.ns.at' fun o e => hk _ o hLw e, fun b o e => hk b o (fun hb => by rw [hwr b hb] at e; cases e) (F'.keep b o e), F'.above⟩
      have kpN : ∀ {h₂ : Heap}, (∀ b o, b ∉ wr → h'.get? b = some o → h₂.get? b = some o) → News h₀ L h₂ ((D, LCg.lst ys) :: news) := fun {h₂} hk p hp =>
        ⟨hk _ _ ((List.mem_cons.mp hp).elim (fun e => e ▸ hDw) (hnw p)) (N' p hp).1, (N' p hp).2⟩
      by_cases hlt : i < n
      · refine W.item i _ _ _ hlt hst' fun T vals h₂ tk₂ hPv hT hTup hMid hk₂ => ?_
        obtain ⟨kk, v₁, v₂, hkx, rfl, hIt⟩ := hPt i vals hlt hPv
        refine W.go _ _ _ i T _ _ _ hMid fun h₃ hst₃ hk₃ => ?_
        have hTw := W.apart i T h₂ hMid
        have hk23 : ∀ b o, b ∉ wr → h'.get? b = some o → h₃.get? b = some o := fun b o hb e => hk₃ b o hb (hk₂ b o hb e)
        have F₃ := kpF hk23
        have N₃ := kpN hk23
        obtain ⟨oT, eT, cT, nT, dT⟩ := hTup
        have ht : IsTup h₃ T #[v₁, v₂] := ⟨oT, hk₃ _ _ hTw eT, cT, nT, dT⟩
        refine assign_Tuple_tuple hh ht rfl rfl fun h₅ he => ?_
        have he' : ∀ b o, h₃.get? b = some o → h₅.get? b = some o := fun b o e => he b o (Nat.ne_of_lt (Heap.lt_size e)) e
        refine assignInOrder_cons (wpAny_assign_Name (wpAny_storeName_local (lookup_relabel_local hx) ((hn'.at' fun o e => hk23 _ o hCw e).at' fun o e => he' _ o e) (fun h₆ hn₆ hs₆ => ?_) (by simp [compEnvC, relabel, hkind])))
        refine assignInOrder_cons (wpAny_assign_Name (wpAny_storeName_local (lookup_relabel_local hx₂) hn₆ (fun h₇ hn₇ hs₇ => ?_) (by simp [compEnvC, relabel, hkind])))
        refine assignInOrder_nil ?_
        have old7 : ∀ b o, b ≠ D + 1 → h₃.get? b = some o → h₇.get? b = some o := fun b o hb e => hs₇.extBut b o hb (hs₆.extBut b o hb (he' b o e))
        have hC₀ : h₀.get? (D + 1) = none := fresh₀ _ (Nat.le_succ _)
        have hst₇ : St (i + 1) h₇ := W.frame _ _ _ hst₃ fun b hb o e => old7 b o (fun q => hCf (q ▸ hb)) e
        obtain ⟨oC, heC, hoC⟩ := LCg.ns_obj hn₇
        have F₇ : Fr h₀ L h₇ m := ((F₃.keeps he').change hs₆ hCL hC₀).change hs₇ hCL hC₀
        have Nown : News h₀ L h₇ (ownOf h₀ fp h₇) := news_ownOf hLf
        have N₇ : News h₀ L h₇ ((D + 1, oC) :: (D, LCg.lst ys) :: (ownOf h₀ fp h₇ ++ news)) := fun p hp => by
          rcases List.mem_cons.mp hp with rfl | hp
          · exact ⟨heC, hCL, hC₀⟩
          rcases List.mem_cons.mp hp with rfl | hp
          · have z := N₃ _ (.head _)
            exact ⟨old7 _ _ hDC z.1, z.2⟩
          rcases List.mem_append.mp hp with hp | hp
          · exact Nown p hp
          · have z := N₃ p (.tail _ hp)
            exact ⟨old7 _ _ (Nat.ne_of_lt (Nat.lt_succ_of_lt (nlt p hp))) z.1, z.2⟩
        refine wpAny_mono (el kk v₁ v₂ (D + 1) oC D _ ys (ownOf h₀ fp h₇) h₇ _ _ (List.mem_of_getElem? hkx) hIt hoC (by simp [hxx]) (by simp) F₇ N₇) (fun y s₄ h₄ => ?_) fun _ _ e => e
        obtain ⟨hVy, h₈, tk₈, rfl, F₈, N₈⟩ := h₄
        have zD := N₈ (D, LCg.lst ys) (.tail _ (.head _))
        have zC := N₈ (D + 1, oC) (.head _)
        have hst₈ : St (i + 1) h₈ := W.frame _ _ _ hst₇ fun b hb o e => by
          cases hn0 : h₀.get? b with
          | some o₀ =>
            have : o₀ = o := by have := F₇.keep b o₀ hn0; rw [e] at this; exact (Option.some.inj this).symm
            exact this ▸ F₈.keep b o₀ hn0
          | none => exact (N₈ (b, o) (.tail _ (.tail _ (List.mem_append_left _ (mem_ownOf hb hn0 e))))).1
        refine append_at (hsz := by show ys.toArray.size ≤ sizeLine; rw [List.size_toArray, hyl]; exact Nat.le_trans hi hsz) zD.1 fun h₉ hs₉ hD₉ => ?_
        refine ⟨n + 1 - (i + 1), cnt_down (by assumption), h₉, tk₈, i + 1, ys ++ [y], _, rfl, hlt, rfl, by rw [List.length_append, List.length_singleton, hyl], W.frame _ _ _ hst₈ fun b hb o e => hs₉.extBut b o (fun q => hDf (q ▸ hb)) e, F₈.change hs₉ zD.2.1 zD.2.2, (hoC.ns zC.1).sameBut hs₉ (Ne.symm hDC), fun p hp => ?_, ?_⟩
        · rcases List.mem_cons.mp hp with rfl | hp
          · exact ⟨hD₉.trans (congrArg some (LCg.lst_snoc ys y)), zD.2⟩
          · have z := N₈ p (.tail _ (.tail _ (List.mem_append_right _ hp)))
            exact ⟨hs₉.extBut _ _ (Nat.ne_of_lt (nlt p hp)) z.1, z.2⟩
        · rw [List.take_add_one, hkx]
          exact hy.snoc hVy
      · obtain rfl : i = n := Nat.le_antisymm hi (Nat.not_lt.mp hlt)
        refine W.done _ _ _ hst' fun h₂ tk₂ hk₂ => ?_
        rw [← hn, List.take_length] at hy
        have F₂ := kpF hk₂
        have N₂ := kpN hk₂
        exact fin D (D + 1) h₂ tk₂ ys F₂ N₂ hy nlt ⟨_, hn'.at' fun o e => hk₂ _ o hCw e⟩ (fresh₀ _ (Nat.le_succ _)) hCL hDC fun p hp => Nat.ne_of_lt (Nat.lt_succ_of_lt (nlt p hp))
    · rcases List.mem_cons.mp hp with rfl | hp
      · exact ⟨hacc, hDL, fresh₀ _ (Nat.le_refl _)⟩
      · exact ⟨old _ _ (N p hp).1, (N p hp).2⟩
  exact codeAny_compStart_list (loop _ rfl) (W.self 0 _ _ _ hst₁ (loop _ rfl))
theorem all_cut : ∀ prog w A E h₀ L m env elt iter x x₂ px px₂ tp tkk scope cl pos s₁ RR I fp wr n Pt St Mid news h₁ H2 D, Pcut prog w A E h₀ L m env elt iter x x₂ px px₂ tp tkk scope cl pos s₁ RR I fp wr n Pt St Mid news h₁ H2 D := by
  have h : Pcut prog w A E h₀ L m env elt iter x x₂ px px₂ tp tkk scope cl pos s₁ RR I fp wr n Pt St Mid news h₁ H2 D := at_cut
  delta prog w A E h₀ L m env elt iter x x₂ px px₂ tp tkk scope cl pos s₁ RR I fp wr n Pt St Mid news h₁ H2 D at h
  exact fun prog w A E h₀ L m env elt iter x x₂ px px₂ tp tkk scope cl pos s₁ RR I fp wr n Pt St Mid news h₁ H2 D => Classical.choose_spec ex_cut h ((prog, w, A, E, h₀, L), (m, env, elt, iter, x, x₂), (px, px₂, tp, tkk, scope, cl), (pos, s₁, RR, I, fp, wr), (n, Pt, St, Mid, news, h₁), (H2, D))
end K_lcZ_block
theorem lcZ_block : type_of% (@Subtype.property _ _ K_lcZ_block.cut (no_implicit_lambda% K_lcZ_block.all_cut)) := no_implicit_lambda% (@Subtype.property _ _ K_lcZ_block.cut (no_implicit_lambda% K_lcZ_block.all_cut))
section
variable {prog : Program} {w : World} {A : Around} {E : Value → Shared → Prop} {s : Shared} {h₀ : Heap} {L : Addr} {m : Str → Option Value} {env : Env} {α : Type}
inductive LcZ.Src (α : Type) (prog : Program) (w : World) (A : Around) (h₀ : Heap) (L : Addr) (m : Str → Option Value) (env : Env) (elt : PySem.Expr) (x : Str) (x₂ : Str) (scope : Scope) (cl : List (Str × Addr)) (Q : Value → Shared → Prop) (xv : Value) (s₁ : Shared) : Prop
  | mk (I : Addr) (fp : List Addr) (wr : List Addr) (n : Nat) (Pt : Nat → Array Value → Prop) (St : Nat → Heap → Prop) (Mid : Nat → Addr → Heap → Prop) (news : List (Addr × Obj)) (as : List α) (It : α → Value → Value → Prop) (V : α → Value → Prop)
    (h0 : xv = .ref I)
    (h1 : A.handled = none)
    (h2 : WalksT prog w A I fp wr n Pt St Mid)
    (h3 : St 0 s₁.heap)
    (h4 : (∀ b ∈ fp, b < s₁.heap.objs.size))
    (h5 : L ∉ fp)
    (h6 : (∀ b ∈ wr, h₀.get? b = none))
    (h7 : (∀ p ∈ news, p.1 ∉ wr))
    (h8 : Fr h₀ L s₁.heap m)
    (h9 : News h₀ L s₁.heap news)
    (h10 : as.length = n)
    (h11 : n ≤ sizeLine)
    (h12 : (∀ i vals, i < n → Pt i vals → ∃ k v₁ v₂, as[i]? = some k ∧ vals = #[v₁, v₂] ∧ It k v₁ v₂))
    (h13 : (∀ k v₁ v₂ C oC D m₂ ys own h tk (E' : Value → Shared → Prop), k ∈ as → It k v₁ v₂ → LCg.NsObj oC m₂ → m₂ x = some v₁ → m₂ x₂ = some v₂ → Fr h₀ L h m → News h₀ L h ((C, oC) :: (D, LCg.lst ys) :: (own ++ news)) →
        wpAny (model prog w) A (eval elt (compEnvC scope cl C env)) (fun y s' => V k y ∧ ∃ h' tk', s' = { s₁ with heap := h', toks := tk' } ∧ Fr h₀ L h' m ∧ News h₀ L h' ((C, oC) :: (D, LCg.lst ys) :: (own ++ news))) E' { s₁ with heap := h, toks := tk }))
    (h14 : (∀ D h' tk ys, Fr h₀ L h' m → News h₀ L h' ((D, LCg.lst ys) :: news) → Paired V as ys → (∀ p ∈ news, @LT.lt Nat _ p.1 D) → Q (.ref D) { s₁ with heap := h', toks := tk }))
    : LcZ.Src α prog w A h₀ L m env elt x x₂ scope cl Q xv s₁
/-- a list comprehension over pairs that are walked (zip): its items make nothing -/
theorem lcZ {elt iter : PySem.Expr} {x x₂ : Str} {px px₂ tp : Pos} {tkk} {scope : Scope} {cl : List (Str × Addr)} {pos : Pos} {Q : Value → Shared → Prop} (_F₀ : Fr h₀ L s.heap m)
    (hclos : closureFor scope env = pure cl) (hcell : ∀ y ∈ scope.names, y.2 ≠ .cell) (hkind : scope.kind = .function)
    (hnames : ∀ y ∈ scope.names, y.2 = .local → scope.names.lookup y.1 = some .local) (hx : scope.names.lookup x = some .local) (hx₂ : scope.names.lookup x₂ = some .local) (hxx : x ≠ x₂)
    (h : wpAny (model prog w) A (eval iter env) (LcZ.Src α prog w A h₀ L m env elt x x₂ scope cl Q) E s)
    (hs : ∀ x, foldedSetIterable iter env x = pure x := by intro _; rfl) :
    wpAny (model prog w) A (eval (.ListComp elt [⟨.Tuple [.Name x px, .Name x₂ px₂] tkk tp, iter, [], 0⟩] scope pos) env) Q E s := by
  rw [eval_ListComp]
  refine wpAny_comprehension_free (use := none) rfl hs hclos hkind hnames (wpAny_mono h (fun xv s₁ h₁ => ?_) fun _ _ e => e)
  obtain ⟨I, fp, wr, n, Pt, St, Mid, news, as, It, V, rfl, hh, W, hst, hfp, hLf, hwr, hnw, F, N, hn, hsz, hPt, el, fin⟩ := h₁
  refine lcZ_block hcell hkind hx hx₂ hxx hh W hst hfp hLf hwr hnw F N hn hsz hPt el fun D C h' tk ys F' N' hy hlt hns hC₀ hCL hDC hC => ?_
  obtain ⟨m', hns⟩ := hns
  refine ⟨_, hns, fun h'' hs'' => fin D h'' tk ys (F'.change hs'' hCL hC₀) (fun p hp => ?_) hy hlt⟩
  refine ⟨(hs''.2 _ ?_).trans (N' p hp).1, (N' p hp).2⟩
  rcases List.mem_cons.mp hp with rfl | hp
  · exact hDC
  · exact hC p hp
inductive LcZA.Src (α : Type) (prog : Program) (w : World) (A : Around) (h₀ : Heap) (L : Addr) (m : Str → Option Value) (env : Env) (elt : PySem.Expr) (x : Str) (x₂ : Str) (scope : Scope) (cl : List (Str × Addr)) (y : Str) (Q : Flow → Shared → Prop) (xv : Value) (s₁ : Shared) : Prop
  | mk (I : Addr) (fp : List Addr) (wr : List Addr) (n : Nat) (Pt : Nat → Array Value → Prop) (St : Nat → Heap → Prop) (Mid : Nat → Addr → Heap → Prop) (news : List (Addr × Obj)) (as : List α) (It : α → Value → Value → Prop) (V : α → Value → Prop)
    (h0 : xv = .ref I)
    (h1 : A.handled = none)
    (h2 : WalksT prog w A I fp wr n Pt St Mid)
    (h3 : St 0 s₁.heap)
    (h4 : (∀ b ∈ fp, b < s₁.heap.objs.size))
    (h5 : L ∉ fp)
    (h6 : (∀ b ∈ wr, h₀.get? b = none))
    (h7 : (∀ p ∈ news, p.1 ∉ wr))
    (h8 : Fr h₀ L s₁.heap m)
    (h9 : News h₀ L s₁.heap news)
    (h10 : as.length = n)
    (h11 : n ≤ sizeLine)
    (h12 : (∀ i vals, i < n → Pt i vals → ∃ k v₁ v₂, as[i]? = some k ∧ vals = #[v₁, v₂] ∧ It k v₁ v₂))
    (h13 : (∀ k v₁ v₂ C oC D m₂ ys own h tk (E' : Value → Shared → Prop), k ∈ as → It k v₁ v₂ → LCg.NsObj oC m₂ → m₂ x = some v₁ → m₂ x₂ = some v₂ → Fr h₀ L h m → News h₀ L h ((C, oC) :: (D, LCg.lst ys) :: (own ++ news)) →
        wpAny (model prog w) A (eval elt (compEnvC scope cl C env)) (fun y s' => V k y ∧ ∃ h' tk', s' = { s₁ with heap := h', toks := tk' } ∧ Fr h₀ L h' m ∧ News h₀ L h' ((C, oC) :: (D, LCg.lst ys) :: (own ++ news))) E' { s₁ with heap := h, toks := tk }))
    (h14 : (∀ D h' tk ys, Fr h₀ L h' (fun z => if z = y then some (.ref D) else m z) → News h₀ L h' ((D, LCg.lst ys) :: news) → Paired V as ys → (∀ p ∈ news, @LT.lt Nat _ p.1 D) → Q .next { s₁ with heap := h', toks := tk }))
    : LcZA.Src α prog w A h₀ L m env elt x x₂ scope cl y Q xv s₁
/-- the same, stored under a name -/
theorem lcZA {elt iter : PySem.Expr} {x x₂ : Str} {px px₂ tp : Pos} {tkk} {scope : Scope} {cl : List (Str × Addr)} {pos : Pos} {y : Str} {py spos : Pos} {Q : Flow → Shared → Prop} (_F₀ : Fr h₀ L s.heap m) (hLe : env.locals = L)
    (hsw : swapsWith (.ListComp elt [⟨.Tuple [.Name x px, .Name x₂ px₂] tkk tp, iter, [], 0⟩] scope pos) (some (.Name y py)) spos.line env = pure true) (hy : env.kindOf y = some .local) (hp : (env.scope.kind == .class || (env.scope.kind == .module && env.locals != env.globals)) = false)
    (hclos : closureFor scope env = pure cl) (hcell : ∀ y ∈ scope.names, y.2 ≠ .cell) (hkind : scope.kind = .function)
    (hnames : ∀ y ∈ scope.names, y.2 = .local → scope.names.lookup y.1 = some .local) (hx : scope.names.lookup x = some .local) (hx₂ : scope.names.lookup x₂ = some .local) (hxx : x ≠ x₂)
    (h : wpAny (model prog w) A (eval iter env) (LcZA.Src α prog w A h₀ L m env elt x x₂ scope cl y Q) E s)
    (hs : ∀ x, foldedSetIterable iter env x = pure x := by intro _; rfl) :
    wpAny (model prog w) A (exec (.Assign [.Name y py] (.ListComp elt [⟨.Tuple [.Name x px, .Name x₂ px₂] tkk tp, iter, [], 0⟩] scope pos) spos) env) Q E s := by
  subst hLe
  rw [exec_Assign_Name_used _ _ _ _ hsw]
  refine wpAny_bind (wpAny_standAt (wpAny_bind ?_))
  show wpAny _ A (do let _ ← comprehension (.ListComp elt [⟨.Tuple [.Name x px, .Name x₂ px₂] tkk tp, iter, [], 0⟩] scope pos) scope env _ (newList []) false (eval iter env) (some (assign (.Name y py) env))) _ _ s
  refine wpAny_bind (wpAny_mono (wpAny_comprehension_free (use := some (assign (.Name y py) env)) (Q := fun _ s' => Q .next s') rfl hs hclos hkind hnames
    (wpAny_mono h (fun xv s₁ h₁ => ?_) fun _ _ e => e)) (fun _ s' hq => wpAny_pure (wpAny_pure hq)) fun _ _ e => e)
  obtain ⟨I, fp, wr, n, Pt, St, Mid, news, as, It, V, rfl, hh, W, hst, hfp, hLf, hwr, hnw, F, N, hn, hsz, hPt, el, fin⟩ := h₁
  refine lcZ_block hcell hkind hx hx₂ hxx hh W hst hfp hLf hwr hnw F N hn hsz hPt el fun D C h' tk ys F' N' hyy hlt hns hC₀ hCL hDC hC => ?_
  obtain ⟨m', hns⟩ := hns
  show wpAny _ A (assign (.Name y py) env (.ref D)) _ _ _
  refine wpAny_assign_Name (wpAny_storeName_local hy F'.ns (fun h₂ hn₂ hs₂ => ?_) hp)
  have hL₀ : h₀.get? env.locals = none := Heap.get?_none_of_le F'.above
  have F₂ : Fr h₀ env.locals h₂ (fun z => if z = y then some (.ref D) else m z) := ⟨hn₂, fun b o e => hs₂.extBut b o (fun q => by rw [q, hL₀] at e; cases e) (F'.keep b o e), F'.above⟩
  refine ⟨_, hns.sameBut hs₂ hCL, fun h'' hs'' => fin D h'' _ ys (F₂.change hs'' hCL hC₀) (fun p hp => ?_) hyy hlt⟩
  have z : h₂.get? p.1 = some p.2 := hs₂.extBut _ _ (N' p hp).2.1 (N' p hp).1
  refine ⟨hs''.extBut _ _ ?_ z, (N' p hp).2⟩
  rcases List.mem_cons.mp hp with rfl | hp
  · exact hDC
  · exact hC p hp
/-- zip of two lists of the ledger -/
theorem zipK {a b : Addr} {vs us : List Value} {k j : Nat} {news : List (Addr × Obj)} {Q : Value → Shared → Prop} (hh : A.handled = none) (F : Fr h₀ L s.heap m) (N : News h₀ L s.heap news) (ha : (a, ({ cls := .type "list", data := .seq vs.toArray k } : Obj)) ∈ news) (hb : (b, ({ cls := .type "list", data := .seq us.toArray j } : Obj)) ∈ news)
    (h : ∀ z h' fp wr St Mid, WalksT prog w A z fp wr (min vs.length us.length) (fun i vals => ∃ x y, vs[i]? = some x ∧ us[i]? = some y ∧ vals = #[x, y]) St Mid → St 0 h' → (∀ b ∈ fp, b < h'.objs.size) → L ∉ fp → (∀ b ∈ wr, h₀.get? b = none) → (∀ p ∈ news, p.1 ∉ wr) → Fr h₀ L h' m → News h₀ L h' news → Q (.ref z) { s with heap := h' }) :
    wpAny (model prog w) A (call (.type "zip") [.ref a, .ref b]) Q E s := by
  have hl1 : s.heap.IsList a vs.toArray := ⟨_, (N _ ha).1, rfl, k, rfl⟩
  have hl2 : s.heap.IsList b us.toArray := ⟨_, (N _ hb).1, rfl, j, rfl⟩
  have ha1 : a < s.heap.objs.size := Heap.lt_size (N _ ha).1
  have hb1 : b < s.heap.objs.size := Heap.lt_size (N _ hb).1
  refine call_zip_2 hl1 hl2 fun h' z1 z2 z3 z4 z5 z6 hk => ?_
  have W := WalksT.zip2 (prog := prog) (w := w) (A := A) hh (s.heap.objs.size + 4) (s.heap.objs.size + 2) (s.heap.objs.size + 3) s.heap.objs.size (s.heap.objs.size + 1) a b (zipApart_new ha1 hb1) vs.toArray us.toArray
  have hPt : (fun (i : Nat) (vals : Array Value) => ∃ x y, vs.toArray[i]? = some x ∧ us.toArray[i]? = some y ∧ vals = #[x, y]) = fun i vals => ∃ x y, vs[i]? = some x ∧ us[i]? = some y ∧ vals = #[x, y] := by
    funext i vals
    simp only [List.getElem?_toArray]
  have en : min vs.toArray.size us.toArray.size = min vs.length us.length := by simp
  rw [hPt, en] at W
  have hsz : s.heap.objs.size < h'.objs.size := by rw [z6]; exact Nat.lt_add_of_pos_right (by decide)
  have fresh₀ : ∀ c : Nat, s.heap.objs.size ≤ c → h₀.get? c = none := fun c hc => by
    cases e : h₀.get? c with
    | none => rfl
    | some o' => exact absurd (Heap.lt_size (F.keep c o' e)) (Nat.not_lt.mpr hc)
  have hL : @LT.lt Nat _ L s.heap.objs.size := F.ns.lt
  refine h _ h' _ _ _ _ W ⟨z1, z2, ⟨_, _, z3⟩, z4, z5, hl1.at fun o e => hk _ _ e, hl2.at fun o e => hk _ _ e⟩ ?_ ?_ ?_ ?_ (F.keeps hk) (N.grown hk)
  · intro c hc
    have ha1' : @LT.lt Nat _ a s.heap.objs.size := ha1
    have hb1' : @LT.lt Nat _ b s.heap.objs.size := hb1
    rw [z6]
    simp only [List.mem_cons, List.not_mem_nil, or_false] at hc
    revert hc ha1' hb1'
    generalize s.heap.objs.size = n0
    intro ha1' hb1' hc
    show @LT.lt Nat _ c (n0 + 5)
    rcases hc with rfl | rfl | rfl | rfl | rfl | rfl | rfl <;> omega
  · intro hc
    simp only [List.mem_cons, List.not_mem_nil, or_false] at hc
    rcases hc with e | e | e | e | e | e | e
    · exact absurd e (Nat.ne_of_lt (by show @LT.lt Nat _ L _; k_extra "n:c"))
    · exact absurd e (Nat.ne_of_lt (by show @LT.lt Nat _ L _; k_extra "n:c"))
    · exact absurd e (Nat.ne_of_lt (by show @LT.lt Nat _ L _; k_extra "n:c"))
    · exact absurd e (Nat.ne_of_lt hL)
    · exact absurd e (Nat.ne_of_lt (by show @LT.lt Nat _ L _; k_extra "n:c"))
    · exact (N _ ha).2.1 e.symm
    · exact (N _ hb).2.1 e.symm
  · intro c hc
    simp only [List.mem_cons, List.not_mem_nil, or_false] at hc
    refine fresh₀ c ?_
    rcases hc with rfl | rfl | rfl | rfl
    · show @LE.le Nat _ _ _; k_extra "n:c"
    · show @LE.le Nat _ _ _; k_extra "n:c"
    · exact Nat.le_refl _
    · show @LE.le Nat _ _ _; k_extra "n:c"
  · intro p hp hc
    have hp1 : @LT.lt Nat _ p.1 s.heap.objs.size := Heap.lt_size (N p hp).1
    simp only [List.mem_cons, List.not_mem_nil, or_false] at hc
    rcases hc with e | e | e | e
    · exact absurd e (Nat.ne_of_lt (by show @LT.lt Nat _ p.1 _; k_extra "n:c"))
    · exact absurd e (Nat.ne_of_lt (by show @LT.lt Nat _ p.1 _; k_extra "n:c"))
    · exact absurd e (Nat.ne_of_lt hp1)
    · exact absurd e (Nat.ne_of_lt (by show @LT.lt Nat _ p.1 _; k_extra "n:c"))
end
end Mine
end
section
open PySem PySem.W PyProof.Rows PySem.Spec PySem.Calls
set_option maxRecDepth 100000
namespace Mine
section
variable {prog : Program} {w : World} {A : Around} {E : Value → Shared → Prop} {s : Shared} {h₀ : Heap} {L : Addr} {m : Str → Option Value} {env : Env} {α : Type}
variable {elt iter iter2 ct : PySem.Expr} {x y : Str} {px py : Pos} {scope : Scope} {pos : Pos}
noncomputable abbrev Two (elt iter iter2 ct : PySem.Expr) (x y : Str) (px py : Pos) (scope : Scope) (pos : Pos) : PySem.Expr := .ListComp elt [⟨.Name x px, iter, [], 0⟩, ⟨.Name y py, iter2, [ct], 0⟩] scope pos
theorem two_turn0 (it acc : Value) (env : Env) : compTurn (Two elt iter iter2 ct x y px py scope pos) 0 it acc env = (do
    standAt iter.pos
    match ← pyNext it with
    | none => pure (.done .next)
    | some v =>
      letOwnedTupleGo (.Name x px) it v
      assign (.Name x px) env v
      let mut ok := true
      for c in ([] : List PySem.Expr) do
        if ok then ok ← isTrue c env (eval c env)
      if ok then
        let xv ← eval iter2 env
        standAt iter2.pos
        let xw ← foldedSetIterable iter2 env xv
        let _ ← runOwn (.compStart (Two elt iter iter2 ct x y px py scope pos) 1 (← holding [xw] (pyIter xw)) acc env) env
      again (.compLoop (Two elt iter iter2 ct x y px py scope pos) 0 it acc env)) := by rfl
theorem two_turn1 (it acc : Value) (env : Env) : compTurn (Two elt iter iter2 ct x y px py scope pos) 1 it acc env = (do
    standAt iter2.pos
    match ← pyNext it with
    | none => pure (.done .next)
    | some v =>
      letOwnedTupleGo (.Name y py) it v
      assign (.Name y py) env v
      let mut ok := true
      for c in [ct] do
        if ok then ok ← isTrue c env (eval c env)
      if ok then
        (do let _ ← call (.builtin "list.append") [acc, ← eval elt env])
      again (.compLoop (Two elt iter iter2 ct x y px py scope pos) 1 it acc env)) := by rfl
theorem two_loop0 {R : Result → Shared → Prop} {it acc : Value} {env : Env} (I : Nat → Shared → Prop)
    (turn : ∀ n s, I n s → wpAny (model prog w) A (pyNext it) (fun r s₁ => match r with
      | none => R (.ok .next) s₁
      | some v => wpAny (model prog w) A (assign (.Name x px) env v) (fun _ s₂ =>
          wpAny (model prog w) A (eval iter2 env) (fun xv s₃ => wpAny (model prog w) A (pyIter xv) (fun it2 s₄ =>
            codeAny (model prog w) A (.compStart (Two elt iter iter2 ct x y px py scope pos) 1 it2 acc env) (fun r s' => match r with | .ok _ => ∃ m, m < n ∧ I m s' | .error e => cameBackBy (model prog w) A env (notedBy (model prog w) A env fun e s' => R (.error e) s') e s') s₄) (notedBy (model prog w) A env fun e s' => R (.error e) s') s₃) (notedBy (model prog w) A env fun e s' => R (.error e) s') s₂) (notedBy (model prog w) A env fun e s' => R (.error e) s') s₁) (notedBy (model prog w) A env fun e s' => R (.error e) s') s)
    (n : Nat) (h : I n s) (hs : ∀ x, foldedSetIterable iter2 env x = pure x := by intro _; rfl) :
    codeAny (model prog w) A (.compLoop (Two elt iter iter2 ct x y px py scope pos) 0 it acc env) R s := by
  refine codeAny_loop rfl I (fun n s hI => ?_) n h
  show wpAny _ A ((compTurn (Two elt iter iter2 ct x y px py scope pos) 0 it acc env).onRaise (fun x => do noteFrame x env; theTreesLotGoes x)) _ _ s
  refine wpAny_noted ?_
  rw [two_turn0]
  refine wpAny_bind (wpAny_standAt (wpAny_bind (wpAny_mono (turn n s hI) (fun r s₁ h₁ => ?_) fun _ _ h' => h')))
  cases r with
  | none => exact wpAny_pure h₁
  | some v =>
    refine wpAny_bind (wpAny_of_eq (show letOwnedTupleGo (.Name x px) it v = pure () from rfl) ?_)
    refine wpAny_bind (wpAny_mono h₁ (fun _ s₂ h₂ => wpAny_bind (wpAny_mono (wpAny_tests_nil (Q := fun ok s₃ => ok = true ∧ s₃ = s₂) ⟨rfl, rfl⟩) (fun ok s₃ h₃ => ?_) fun _ _ h' => h')) fun _ _ h' => h')
    obtain ⟨rfl, rfl⟩ := h₃
    refine (wpAny_bind (wpAny_mono h₂ (fun xv s₄ h₄ => wpAny_bind (wpAny_standAt (wpAny_bind (wpAny_of_eq (hs xv) (wpAny_bind (wpAny_holding (wpAny_mono h₄ (fun it2 s₅ h₅ => ?_) fun _ _ h' => h')))))) ) fun _ _ h' => h'))
    refine wpAny_bind (wpAny_runOwn ?_)
    refine codeAny_mono h₅ ?_
    intro r s' hr
    cases r with
    | ok f => exact wpAny_pure ⟨rfl, hr⟩
    | error e => exact hr
theorem two_loop1 {R : Result → Shared → Prop} {it acc : Value} {env : Env} (I : Nat → Shared → Prop)
    (turn : ∀ n s, I n s → wpAny (model prog w) A (pyNext it) (fun r s₁ => match r with
      | none => R (.ok .next) s₁
      | some v => wpAny (model prog w) A (assign (.Name y py) env v) (fun _ s₂ =>
          wpAny (model prog w) A (isTrue ct env (eval ct env)) (fun ok s₃ =>
            if ok = true then wpAny (model prog w) A (eval elt env) (fun x s₄ =>
              wpAny (model prog w) A (call (.builtin "list.append") [acc, x]) (fun _ s₅ => ∃ m, m < n ∧ I m s₅) (notedBy (model prog w) A env fun e s' => R (.error e) s') s₄) (notedBy (model prog w) A env fun e s' => R (.error e) s') s₃
            else ∃ m, m < n ∧ I m s₃) (notedBy (model prog w) A env fun e s' => R (.error e) s') s₂) (notedBy (model prog w) A env fun e s' => R (.error e) s') s₁) (notedBy (model prog w) A env fun e s' => R (.error e) s') s)
    (n : Nat) (h : I n s) : codeAny (model prog w) A (.compLoop (Two elt iter iter2 ct x y px py scope pos) 1 it acc env) R s := by
  refine codeAny_loop rfl I (fun n s hI => ?_) n h
  show wpAny _ A ((compTurn (Two elt iter iter2 ct x y px py scope pos) 1 it acc env).onRaise (fun x => do noteFrame x env; theTreesLotGoes x)) _ _ s
  refine wpAny_noted ?_
  rw [two_turn1]
  refine wpAny_bind (wpAny_standAt (wpAny_bind (wpAny_mono (turn n s hI) (fun r s₁ h₁ => ?_) fun _ _ h' => h')))
  cases r with
  | none => exact wpAny_pure h₁
  | some v =>
    refine wpAny_bind (wpAny_of_eq (show letOwnedTupleGo (.Name y py) it v = pure () from rfl) ?_)
    refine wpAny_bind (wpAny_mono h₁ (fun _ s₂ h₂ => wpAny_bind (wpAny_mono (wpAny_tests_one h₂) (fun ok s₃ h₃ => ?_) fun _ _ h' => h')) fun _ _ h' => h')
    cases ok with
    | false => exact wpAny_pure ⟨rfl, by simpa using h₃⟩
    | true =>
      simp only [if_true] at h₃
      exact wpAny_bind (wpAny_bind (wpAny_mono h₃ (fun x s₄ h₄ => wpAny_bind (wpAny_mono h₄ (fun _ s₅ h₅ => wpAny_pure (wpAny_pure ⟨rfl, h₅⟩)) fun _ _ h' => h')) fun _ _ h' => h'))
theorem two_start {R : Result → Shared → Prop} {d : Nat} {it acc : Value} {env : Env} (hd : d < 2)
    (h0 : codeAny (model prog w) A (.compLoop (Two elt iter iter2 ct x y px py scope pos) d it acc env) R s)
    (h : wpAny (model prog w) A (pyIter it) (fun it' s' => codeAny (model prog w) A (.compLoop (Two elt iter iter2 ct x y px py scope pos) d it' acc env) R s') (notedBy (model prog w) A env fun x s' => R (.error x) s') s) :
    codeAny (model prog w) A (.compStart (Two elt iter iter2 ct x y px py scope pos) d it acc env) R s := by
  refine codeAny_of_tree ?_
  show wpAny _ _ ((compStart (Two elt iter iter2 ct x y px py scope pos) d it acc env).onRaise (fun x => do noteFrame x env; standAt theWindowsPlace)) _ _ s
  refine wpAny_notedAt ?_
  unfold compStart
  match d, hd with
  | 0, _ =>
    show wpAny _ _ (ask >>= _) _ _ s
    refine wpAny_bind (wpAny_askSetting (wpAny_ite ?_))
    split
    · first
        | exact wpAny_bind (wpAny_pure (wpAny_pure (And.intro rfl h0)))
        | exact wpAny_pure (And.intro rfl h0)
    · refine wpAny_bind (wpAny_rule ?_); show wpAny _ _ (standAt iter.pos >>= _) _ _ s; exact wpAny_bind (wpAny_standAt (wpAny_bind (wpAny_mono h (fun it' s' h' => wpAny_pure (And.intro rfl h')) fun _ _ x => x)))
  | 1, _ =>
    show wpAny _ _ (ask >>= _) _ _ s
    refine wpAny_bind (wpAny_askSetting (wpAny_ite ?_))
    split
    · first
        | exact wpAny_bind (wpAny_pure (wpAny_pure (And.intro rfl h0)))
        | exact wpAny_pure (And.intro rfl h0)
    · refine wpAny_bind (wpAny_rule ?_); show wpAny _ _ (standAt iter2.pos >>= _) _ _ s; exact wpAny_bind (wpAny_standAt (wpAny_bind (wpAny_mono h (fun it' s' h' => wpAny_pure (And.intro rfl h')) fun _ _ x => x)))
end
end Mine
end
section
open PySem PySem.W PyProof.Rows PySem.Spec PySem.Calls
set_option maxRecDepth 100000
namespace Mine
section
variable {prog : Program} {w : World} {A : Around} {E : Value → Shared → Prop} {s : Shared} {h₀ : Heap} {L : Addr} {m : Str → Option Value} {env : Env} {α : Type}
/-- some pair before the i-th item passes -/
noncomputable def Hit (as : List α) (n : Nat) (pz : α → Nat → Bool) : Prop := ∃ a ∈ as, ∃ j, j < n ∧ pz a j = true
end
inductive Lc2.Src (α : Type) (prog : Program) (w : World) (A : Around) (h₀ : Heap) (L : Addr) (m : Str → Option Value) (env : Env) (elt : PySem.Expr) (iter2 : PySem.Expr) (ct : PySem.Expr) (x : Str) (y : Str) (scope : Scope) (cl : List (Str × Addr)) (Q : Value → Shared → Prop) (xv : Value) (s₁ : Shared) : Prop
  | mk (news : List (Addr × Obj)) (ax : Addr) (vs : List Value) (kk : Nat) (as : List α) (IsIt : α → Value → Prop) (n : Nat) (pz : α → Nat → Bool)
    (h0 : xv = .ref ax)
    (h1 : A.handled = none)
    (h2 : Fr h₀ L s₁.heap m)
    (h3 : News h₀ L s₁.heap news)
    (h4 : (ax, ({ cls := .type "list", data := .seq vs.toArray kk } : Obj)) ∈ news)
    (h5 : vs.length ≤ 50)
    (h6 : Paired IsIt as vs)
    (h7 : n ≤ 50)
    (h8 : (∀ k v I oI C oC D m₂ ys h tk (E' : Value → Shared → Prop), k ∈ as → IsIt k v → LCg.NsObj oC m₂ → m₂ x = some v → Fr h₀ L h m → News h₀ L h ((I, oI) :: (C, oC) :: (D, LCg.lst ys) :: news) →
        wpAny (model prog w) A (eval iter2 (compEnvC scope cl C env)) (fun xv s' => ∃ r t u v2 h' tk', xv = .ref r ∧ s' = { s₁ with heap := h', toks := tk' } ∧ Fr h₀ L h' m ∧ News h₀ L h' ((I, oI) :: (C, oC) :: (D, LCg.lst ys) :: news) ∧ IsRange h' r 0 (n : Int) 1 t u v2) E' { s₁ with heap := h, toks := tk }))
    (h9 : (∀ k v (j : Nat) t J oJ I oI C oC D m₂ ys h tk (E' : Value → Shared → Prop), k ∈ as → IsIt k v → j < n → LCg.NsObj oC m₂ → m₂ x = some v → m₂ y = some (.int (j : Int) t) → Fr h₀ L h m → News h₀ L h ((J, oJ) :: (I, oI) :: (C, oC) :: (D, LCg.lst ys) :: news) → TestK prog w A h₀ L m s₁ ct (compEnvC scope cl C env) [(J, oJ), (I, oI), (C, oC), (D, LCg.lst ys)] news (pz k j) E' h tk))
    (h10 : (∀ k v (j : Nat) t J oJ I oI C oC D m₂ ys h tk (E' : Value → Shared → Prop), k ∈ as → IsIt k v → j < n → LCg.NsObj oC m₂ → m₂ x = some v → m₂ y = some (.int (j : Int) t) → Fr h₀ L h m → News h₀ L h ((J, oJ) :: (I, oI) :: (C, oC) :: (D, LCg.lst ys) :: news) → ElK prog w A h₀ L m s₁ elt (compEnvC scope cl C env) [(J, oJ), (I, oI), (C, oC), (D, LCg.lst ys)] news (fun _ ex => ex = []) E' h tk))
    (h11 : (∀ D h' tk ys, Fr h₀ L h' m → News h₀ L h' ((D, LCg.lst ys) :: news) → (ys ≠ [] ↔ Hit as n pz) → ys.length ≤ 2500 → (∀ p ∈ news, @LT.lt Nat _ p.1 D) → Q (.ref D) { s₁ with heap := h', toks := tk }))
    : Lc2.Src α prog w A h₀ L m env elt iter2 ct x y scope cl Q xv s₁
namespace K_lc2
noncomputable def cut : (@Subtype Prop fun P => P → ∀ {prog : Program} {w : World} {A : Around} {E : Value → Shared → Prop} {s : Shared} {h₀ : Heap} {L : Addr} {m : Str → Option Value} {env : Env} {α : Type} {elt iter iter2 ct : PySem.Expr} {x y : Str} {px py : Pos} {scope : Scope} {cl : List (Str × Addr)} {pos : Pos} {Q : Value → Shared → Prop} (_F₀ : Fr h₀ L s.heap m) (hclos : closureFor scope env = pure cl) (hcell : ∀ y ∈ scope.names, y.2 ≠ .cell) (hkind : scope.kind = .function) (hnames : ∀ y ∈ scope.names, y.2 = .local → scope.names.lookup y.1 = some .local) (hx : scope.names.lookup x = some .local) (hy : scope.names.lookup y = some .local) (hxy : x ≠ y) (h : wpAny (model prog w) A (eval iter env) (Lc2.Src α prog w A h₀ L m env elt iter2 ct x y scope cl Q) E s) (hs : ∀ x, foldedSetIterable iter env x = pure x) (hs2 : ∀ (env : Env) x, foldedSetIterable iter2 env x = pure x), wpAny (model prog w) A (eval (Two elt iter iter2 ct x y px py scope pos) env) Q E s) := by
  refine' mkCut fun hole => ?_
  rotate_left
  focus
  intro prog w A E s h₀ L m env α elt iter iter2 ct x y px py scope cl pos Q _F₀ hclos hcell hkind hnames hx hy hxy h hs hs2
  rw [eval_ListComp]
  refine wpAny_comprehension_free (use := none) rfl hs hclos hkind hnames (wpAny_mono h (fun xv s₁ h₁ => ?_) fun _ _ e => e)
  obtain ⟨news, ax, vs, kk, as, IsIt, n, pz, rfl, hh, F, N, hm, hsz, hpr, hn50, src2, tst, el, fin⟩ := h₁
  have hl : s₁.heap.IsList ax vs.toArray := ⟨_, (N _ hm).1, rfl, kk, rfl⟩
  have hlen := paired_len hpr
  have hlt : ax < s₁.heap.objs.size := Heap.lt_size (N _ hm).1
  refine wpAny_pyIter_list hl ?_
  have hH1 : ∀ b o, s₁.heap.get? b = some o → (s₁.heap.push { cls := .type "list_iterator", data := .fields #[.ref ax, .int 0 0] }).get? b = some o := fun b o e => Heap.get?_push_of_some _ e
  refine wpAny_newObj_type (wpAny_newFunctionEnv hcell (by intro y hy; simp at hy) (fun h₁ hns₁ hsb₁ => ?_) hkind)
  dsimp only at hns₁ hsb₁ ⊢
  generalize hI : s₁.heap.objs.size = I at *
  generalize hHH1 : s₁.heap.push { cls := .type "list_iterator", data := .fields #[.ref ax, .int 0 0] } = H1 at *
  have sz1 : H1.objs.size = I + 1 := by rw [← hHH1, Heap.size_push, hI]
  generalize hH2 : H1.push { cls := .type "list", dict := none, data := .seq ([] : List Value).toArray } = H2 at hns₁ hsb₁ ⊢
  have sz2 : H2.objs.size = I + 1 + 1 := by rw [← hH2, Heap.size_push, sz1]
  generalize hCC : H2.objs.size = C at *
  generalize hDD : H1.objs.size = D at *
  subst sz1
  subst sz2
  have old : ∀ b o, s₁.heap.get? b = some o → h₁.get? b = some o := fun b o e => hsb₁.extBut b o (by have := Heap.lt_size e; rw [hI] at this; exact Nat.ne_of_lt (Nat.lt_succ_of_lt (Nat.lt_succ_of_lt this))) (Heap.get?_push_of_some _ (hH2 ▸ Heap.get?_push_of_some _ (hH1 b o e)))
  have gI : h₁.get? I = some { cls := .type "list_iterator", data := .fields #[.ref ax, .int 0 0] } := hsb₁.extBut _ _ (Nat.ne_of_lt (Nat.lt_succ_of_lt (Nat.lt_succ_self _))) (Heap.get?_push_of_some _ (hH2 ▸ Heap.get?_push_of_some _ (by rw [← hHH1, ← hI]; exact Heap.get?_push_size _ rfl)))
  have gD : h₁.get? (I + 1) = some (LCg.lst []) := hsb₁.extBut _ _ (Nat.ne_of_lt (Nat.lt_succ_self _)) (Heap.get?_push_of_some _ (hH2 ▸ hDD ▸ Heap.get?_push_size _ rfl))
  revert _F₀ hclos hcell hkind hnames hx hy hxy h hs hs2 hh F N hm hsz hpr hn50 src2 tst el fin hl hlen hI hlt hHH1 hH1 hH2 hDD hCC hns₁ hsb₁ old gI gD
  revert α as IsIt pz
  revert prog w A E s h₀ L m env elt iter iter2 ct x y px py scope cl pos Q s₁ news ax vs kk n h₁ I H1 H2
  exact no_implicit_lambda% hole.get
noncomputable section
noncomputable def Pcut : (Program) → (World) → (Around) → (Value → Shared → Prop) → (Shared) → (Heap) → (Addr) → (Str → Option Value) → (Env) → (Expr) → (Expr) → (Expr) → (Expr) → (Str) → (Str) → (Pos) → (Pos) → (Scope) → (List (Str × Addr)) → (Pos) → (Value → Shared → Prop) → (Shared) → (List (Addr × Obj)) → (Addr) → (List Value) → (Nat) → (Nat) → (Heap) → (Nat) → (Heap) → (Heap) → Prop := (@id (∀ {Rcut : (Program) → (World) → (Around) → (Value → Shared → Prop) → (Shared) → (Heap) → (Addr) → (Str → Option Value) → (Env) → (Expr) → (Expr) → (Expr) → (Expr) → (Str) → (Str) → (Pos) → (Pos) → (Scope) → (List (Str × Addr)) → (Pos) → (Value → Shared → Prop) → (Shared) → (List (Addr × Obj)) → (Addr) → (List Value) → (Nat) → (Nat) → (Heap) → (Nat) → (Heap) → (Heap) → Prop}, cut.1 = (∀ prog w A E s h₀ L m env elt iter iter2 ct x y px py scope cl pos Q s₁ news ax vs kk n h₁ I H1 H2, Rcut prog w A E s h₀ L m env elt iter iter2 ct x y px py scope cl pos Q s₁ news ax vs kk n h₁ I H1 H2) → _) fun {Rcut} _ => Rcut) rfl
noncomputable def Tcut : Type := (Program × World × Around × (Value → Shared → Prop) × Shared × Heap) × (Addr × (Str → Option Value) × Env × Expr × Expr × Expr) × (Expr × Str × Str × Pos × Pos × Scope) × ((List (Str × Addr)) × Pos × (Value → Shared → Prop) × Shared × (List (Addr × Obj)) × Addr) × ((List Value) × Nat × Nat × Heap × Nat × Heap) × Heap
noncomputable def Qcut (x : Tcut) : Prop := Pcut x.1.1 x.1.2.1 x.1.2.2.1 x.1.2.2.2.1 x.1.2.2.2.2.1 x.1.2.2.2.2.2 x.2.1.1 x.2.1.2.1 x.2.1.2.2.1 x.2.1.2.2.2.1 x.2.1.2.2.2.2.1 x.2.1.2.2.2.2.2 x.2.2.1.1 x.2.2.1.2.1 x.2.2.1.2.2.1 x.2.2.1.2.2.2.1 x.2.2.1.2.2.2.2.1 x.2.2.1.2.2.2.2.2 x.2.2.2.1.1 x.2.2.2.1.2.1 x.2.2.2.1.2.2.1 x.2.2.2.1.2.2.2.1 x.2.2.2.1.2.2.2.2.1 x.2.2.2.1.2.2.2.2.2 x.2.2.2.2.1.1 x.2.2.2.2.1.2.1 x.2.2.2.2.1.2.2.1 x.2.2.2.2.1.2.2.2.1 x.2.2.2.2.1.2.2.2.2.1 x.2.2.2.2.1.2.2.2.2.2 x.2.2.2.2.2
theorem ex_cut : ∃ x : Tcut, Qcut x → ∀ y, Qcut y := by
  haveI := neW; haveI := neA; haveI := neS
  haveI : Nonempty Tcut := by unfold Tcut; set_option synthInstance.maxSize 2000 in infer_instance
  exact henk1 Qcut
noncomputable def Ccut : Tcut := Classical.choose ex_cut
@[irreducible] noncomputable def prog : Program := Ccut.1.1
@[irreducible] noncomputable def w : World := Ccut.1.2.1
@[irreducible] noncomputable def A : Around := Ccut.1.2.2.1
@[irreducible] noncomputable def E : Value → Shared → Prop := Ccut.1.2.2.2.1
@[irreducible] noncomputable def s : Shared := Ccut.1.2.2.2.2.1
@[irreducible] noncomputable def h₀ : Heap := Ccut.1.2.2.2.2.2
@[irreducible] noncomputable def L : Addr := Ccut.2.1.1
@[irreducible] noncomputable def m : Str → Option Value := Ccut.2.1.2.1
@[irreducible] noncomputable def env : Env := Ccut.2.1.2.2.1
@[irreducible] noncomputable def elt : Expr := Ccut.2.1.2.2.2.1
@[irreducible] noncomputable def iter : Expr := Ccut.2.1.2.2.2.2.1
@[irreducible] noncomputable def iter2 : Expr := Ccut.2.1.2.2.2.2.2
@[irreducible] noncomputable def ct : Expr := Ccut.2.2.1.1
@[irreducible] noncomputable def x : Str := Ccut.2.2.1.2.1
@[irreducible] noncomputable def y : Str := Ccut.2.2.1.2.2.1
@[irreducible] noncomputable def px : Pos := Ccut.2.2.1.2.2.2.1
@[irreducible] noncomputable def py : Pos := Ccut.2.2.1.2.2.2.2.1
@[irreducible] noncomputable def scope : Scope := Ccut.2.2.1.2.2.2.2.2
@[irreducible] noncomputable def cl : List (Str × Addr) := Ccut.2.2.2.1.1
@[irreducible] noncomputable def pos : Pos := Ccut.2.2.2.1.2.1
@[irreducible] noncomputable def Q : Value → Shared → Prop := Ccut.2.2.2.1.2.2.1
@[irreducible] noncomputable def s₁ : Shared := Ccut.2.2.2.1.2.2.2.1
@[irreducible] noncomputable def news : List (Addr × Obj) := Ccut.2.2.2.1.2.2.2.2.1
@[irreducible] noncomputable def ax : Addr := Ccut.2.2.2.1.2.2.2.2.2
@[irreducible] noncomputable def vs : List Value := Ccut.2.2.2.2.1.1
@[irreducible] noncomputable def kk : Nat := Ccut.2.2.2.2.1.2.1
@[irreducible] noncomputable def n : Nat := Ccut.2.2.2.2.1.2.2.1
@[irreducible] noncomputable def h₁ : Heap := Ccut.2.2.2.2.1.2.2.2.1
@[irreducible] noncomputable def I : Nat := Ccut.2.2.2.2.1.2.2.2.2.1
@[irreducible] noncomputable def H1 : Heap := Ccut.2.2.2.2.1.2.2.2.2.2
@[irreducible] noncomputable def H2 : Heap := Ccut.2.2.2.2.2
end
theorem at_cut : Pcut prog w A E s h₀ L m env elt iter iter2 ct x y px py scope cl pos Q s₁ news ax vs kk n h₁ I H1 H2 := by
  intro α as IsIt pz _F₀ hclos hcell hkind hnames hx hy hxy h hs hs2 hh F N hm hsz hpr hn50 src2 tst el fin hl hlen hI hlt hHH1 hH1 hH2 hDD hCC hns₁ hsb₁ old gI gD
  have fresh₀ : ∀ a : Nat, I ≤ a → h₀.get? a = none := fun a ha => by
    cases e : h₀.get? a with
    | none => rfl
    | some o' =>
      have := Heap.lt_size (F.keep a o' e)
      rw [hI] at this
      exact absurd this (Nat.not_lt.mpr ha)
  have hLlt : @LT.lt Nat _ L I := hI ▸ F.ns.lt
  have hltI : @LT.lt Nat _ ax I := hlt
  have nlt : ∀ p ∈ news, @LT.lt Nat _ p.1 I := fun p hp => hI ▸ Heap.lt_size (N p hp).1
  have hCL : @Ne Nat (I + 1 + 1) L := neN (by k_extra "n:c")
  have hDL : @Ne Nat (I + 1) L := neN (by k_extra "n:c")
  have hIL : @Ne Nat L I := neN (by k_extra "n:c")
  have hC₀ : h₀.get? (I + 1 + 1) = none := fresh₀ _ (by show @LE.le Nat _ I _; k_extra "n:c")
  have hD₀ : h₀.get? (I + 1) = none := fresh₀ _ (by show @LE.le Nat _ I _; k_extra "n:c")
  have hCI : I + 1 + 1 ∉ [I] := fun hm => absurd (List.mem_singleton.mp hm) (neN (by k_extra "n:c"))
  have hI₀ : h₀.get? I = none := fresh₀ _ (Nat.le_refl _)
  have W := Walks.list (prog := prog) (w := w) hh I ax (Nat.ne_of_lt hlt) vs.toArray
  have stOf : ∀ {h : Heap} {i : Nat} {oI : Obj}, h.get? I = some oI → oI.cls = .type "list_iterator" → oI.data = .fields #[.ref ax, .int (i : Nat) 0] → News h₀ L h news → h.IsListIter I ax i ∧ h.IsList ax vs.toArray := fun {h i oI} e c d Nn => ⟨⟨oI, e, c, d⟩, ⟨_, (Nn _ hm).1, rfl, kk, rfl⟩⟩
  have st0 : h₁.IsListIter I ax 0 ∧ h₁.IsList ax vs.toArray := ⟨⟨_, gI, rfl, rfl⟩, hl.at fun o e => old _ _ e⟩
  have loop : ∀ s₃ : Shared, s₃ = { s₁ with heap := h₁, toks := s₁.toks + ([] : List (Str × Value)).length } →
      codeAny (model prog w) A (.compLoop (Two elt iter iter2 ct x y px py scope pos) 0 (.ref I) (.ref (I + 1)) (compEnvC scope cl (I + 1 + 1) env))
        (compPost (model prog w) A E none Q (.ref (I + 1)) (I + 1 + 1)) s₃ := by
    rintro s₃ rfl
    refine two_loop0
      (fun k s' => ∃ h' tk i ys m', s' = { s₁ with heap := h', toks := tk } ∧ i ≤ vs.length ∧ k = vs.length + 1 - i ∧ ys.length ≤ i * n ∧ (h'.IsListIter I ax i ∧ h'.IsList ax vs.toArray) ∧ Fr h₀ L h' m ∧ h'.Ns (I + 1 + 1) m' ∧ News h₀ L h' ((I + 1, LCg.lst ys) :: news) ∧ (ys ≠ [] ↔ Hit (as.take i) n pz)) ?_ (vs.length + 1)
      ⟨h₁, _, 0, [], _, rfl, Nat.zero_le _, rfl, Nat.zero_le _, st0, F.keeps old, hns₁, fun p hp => ?_, by simp [Hit]⟩ (fun x => hs2 _ x)
    · rintro k s' ⟨h', tk, i, ys, m', rfl, hi, rfl, hyl, st, F', hn', N', hhit⟩
      have offI : ∀ {oD : Obj}, ∀ p ∈ ((I + 1, oD) :: news : List (Addr × Obj)), p.1 ≠ I := fun p hp => by
        rcases List.mem_cons.mp hp with rfl | hp
        · k_ne
        · exact Nat.ne_of_lt (nlt p hp)
      by_cases hlt' : i < vs.length
      · refine W.item i _ _ _ (by rw [List.size_toArray]; exact hlt') st fun v h₂ tk₂ hPv st₂ hk₂ => ?_
        obtain ⟨kk', hkx, hkv⟩ := paired_at hpr i v (by simpa using hPv)
        have hkm := List.mem_of_getElem? hkx
        have F₂ : Fr h₀ L h₂ m := LCg.fr_but F' hk₂ hIL hI₀
        have N₂ := LCg.news_but N' hk₂ offI
        refine wpAny_assign_Name (wpAny_storeName_local (lookup_relabel_local hx) (hn'.at' fun o e => hk₂ _ o hCI e) (fun h₃ hn₃ hs₃ => ?_) (by simp [compEnvC, relabel, hkind]))
        replace hs₃ : Heap.SameBut (I + 1 + 1) h₂ h₃ := hs₃
        have F₃ : Fr h₀ L h₃ m := F₂.change hs₃ hCL hC₀
        obtain ⟨oC, heC, hoC⟩ := LCg.ns_obj hn₃
        obtain ⟨oI, eI, cI, dI⟩ := st₂.1
        have N₃ : News h₀ L h₃ ((I, oI) :: (I + 1 + 1, oC) :: (I + 1, LCg.lst ys) :: news) := fun p hp => by
          rcases List.mem_cons.mp hp with rfl | hp
          · exact ⟨hs₃.extBut _ _ ((by k_ne)) eI, Ne.symm hIL, hI₀⟩
          rcases List.mem_cons.mp hp with rfl | hp
          · exact ⟨heC, hCL, hC₀⟩
          · refine ⟨hs₃.extBut _ _ ?_ (N₂ p hp).1, (N₂ p hp).2⟩
            rcases List.mem_cons.mp hp with rfl | hp
            · k_ne
            · have := nlt p hp
              exact neN (by k_extra "n:c")
        refine wpAny_mono (src2 kk' v I oI _ oC _ _ ys h₃ _ _ hkm hkv hoC (by simp) F₃ N₃) (fun xv s₄ hq => ?_) fun _ _ e => e
        obtain ⟨r, t, u, v2, h₄, tk₄, rfl, rfl, F₄, N₄, hr⟩ := hq
        have hsm : Builtin.Range.small 0 (n : Int) 1 = true := range_small (by omega) (by omega) (by omega) (by omega)
        have hrs : Builtin.Range.rangeSize 0 (n : Int) 1 = ((n : Nat) : Int) := by rw [rangeSize_nat]; omega
        refine wpAny_pyIter_range hr hsm ?_
        generalize hJ : ({ s₁ with heap := h₄, toks := tk₄ } : Shared).heap.objs.size = J
        have hJ' : h₄.objs.size = J := hJ
        generalize hH5 : ({ s₁ with heap := h₄, toks := tk₄ } : Shared).heap.push _ = h₅
        have hkeep5 : ∀ b o, h₄.get? b = some o → h₅.get? b = some o := fun b o e => by rw [← hH5]; exact Heap.get?_push_of_some _ e
        have W2 := LCg.range_walks (prog := prog) (w := w) (I := J) hh 0 n
        have st2 : IsRangeIter h₅ J (0 + ((0 : Nat) : Int) * 1) ((n : Int) - ((0 : Nat) : Int)) 1 := by
          show h₅.get? J = some _
          rw [← hH5, ← hJ, hrs]
          simpa using Heap.get?_push_size _ rfl
        have F₅ : Fr h₀ L h₅ m := F₄.keeps hkeep5
        have N₅ : News h₀ L h₅ ((I, oI) :: (I + 1 + 1, oC) :: (I + 1, LCg.lst ys) :: news) := N₄.grown hkeep5
        have Jlt : ∀ p ∈ ((I, oI) :: (I + 1 + 1, oC) :: (I + 1, LCg.lst ys) :: news : List (Addr × Obj)), @LT.lt Nat _ p.1 J := fun p hp => hJ' ▸ Heap.lt_size (N₄ p hp).1
        have hJI : @LT.lt Nat _ I J := Jlt _ (.head _)
        have hJC : @LT.lt Nat _ (I + 1 + 1) J := Jlt _ (.tail _ (.head _))
        have hJL : @LT.lt Nat _ L J := hJ' ▸ F₄.ns.lt
        have hJ₀ : h₀.get? J = none := fresh₀ _ (Nat.le_of_lt hJI)
        have hC5 := hoC.ns (N₅ _ (.tail _ (.head _))).1
        have inner : codeAny (model prog w) A (.compLoop (Two elt iter iter2 ct x y px py scope pos) 1 (.ref J) (.ref (I + 1)) (compEnvC scope cl (I + 1 + 1) env))
            (fun r s' => match r with
              | .ok _ => ∃ k', k' < vs.length + 1 - i ∧ ∃ h' tk i ys m', s' = { s₁ with heap := h', toks := tk } ∧ i ≤ vs.length ∧ k' = vs.length + 1 - i ∧ ys.length ≤ i * n ∧ (h'.IsListIter I ax i ∧ h'.IsList ax vs.toArray) ∧ Fr h₀ L h' m ∧ h'.Ns (I + 1 + 1) m' ∧ News h₀ L h' ((I + 1, LCg.lst ys) :: news) ∧ (ys ≠ [] ↔ Hit (as.take i) n pz)
              | .error e => cameBackBy (model prog w) A (compEnvC scope cl (I + 1 + 1) env) (notedBy (model prog w) A (compEnvC scope cl (I + 1 + 1) env) fun e s' => (compPost (model prog w) A E none Q (.ref (I + 1)) (I + 1 + 1)) (.error e) s') e s') { s₁ with heap := h₅, toks := tk₄ } := by
          refine two_loop1
            (fun k s' => ∃ h' tk j zs m', s' = { s₁ with heap := h', toks := tk } ∧ j ≤ n ∧ k = n + 1 - j ∧ zs.length ≤ i * n + j ∧ IsRangeIter h' J (0 + (j : Int) * 1) ((n : Int) - (j : Int)) 1 ∧ Fr h₀ L h' m ∧ h'.Ns (I + 1 + 1) m' ∧ m' x = some v ∧ News h₀ L h' ((I, oI) :: (I + 1, LCg.lst zs) :: news) ∧ (zs ≠ [] ↔ (Hit (as.take i) n pz ∨ ∃ j', j' < j ∧ pz kk' j' = true))) ?_ (n + 1)
            ⟨h₅, _, 0, ys, _, rfl, Nat.zero_le _, rfl, by omega, st2, F₅, hC5, by simp, fun p hp => N₅ p ?_, by simpa using hhit⟩
          · rintro k2 s2 ⟨h₆, tk₆, j, zs, m₆, rfl, hj, rfl, hzl, st6, F₆, hn₆, hmx, N₆, hhit6⟩
            have offJ : ∀ {oD : Obj}, ∀ p ∈ ((I, oI) :: (I + 1, oD) :: news : List (Addr × Obj)), p.1 ≠ J := fun p hp => by
              rcases List.mem_cons.mp hp with rfl | hp
              · k_ne
              rcases List.mem_cons.mp hp with rfl | hp
              · k_ne
              · have := nlt p hp
                exact neN (by k_extra "n:c")
            by_cases hjn : j < n
            · refine W2.item j _ _ _ hjn st6 fun v' h₇ tk₇ hPv' st₇ hk₇ => ?_
              obtain ⟨t', rfl⟩ := hPv'
              rw [show (0 : Int) + (j : Int) = (j : Int) by omega]
              have F₇ : Fr h₀ L h₇ m := LCg.fr_but F₆ hk₇ (Nat.ne_of_lt hJL) hJ₀
              have N₇ := LCg.news_but N₆ hk₇ offJ
              refine wpAny_assign_Name (wpAny_storeName_local (lookup_relabel_local hy) (hn₆.at' fun o e => hk₇ _ o (by simpa using Nat.ne_of_lt hJC) e) (fun h₈ hn₈ hs₈ => ?_) (by simp [compEnvC, relabel, hkind]))
              replace hs₈ : Heap.SameBut (I + 1 + 1) h₇ h₈ := hs₈
              have F₈ : Fr h₀ L h₈ m := F₇.change hs₈ hCL hC₀
              obtain ⟨oC8, heC8, hoC8⟩ := LCg.ns_obj hn₈
              have eJ7 : h₇.get? J = some _ := st₇
              have N₈ : News h₀ L h₈ ((J, _) :: (I, oI) :: (I + 1 + 1, oC8) :: (I + 1, LCg.lst zs) :: news) := fun p hp => by
                rcases List.mem_cons.mp hp with rfl | hp
                · exact ⟨hs₈.extBut _ _ ((by k_ne)) eJ7, (by k_ne), hJ₀⟩
                rcases List.mem_cons.mp hp with rfl | hp
                · exact ⟨hs₈.extBut _ _ ((by k_ne)) (N₇ _ (.head _)).1, (N₇ _ (.head _)).2⟩
                rcases List.mem_cons.mp hp with rfl | hp
                · exact ⟨heC8, hCL, hC₀⟩
                · refine ⟨hs₈.extBut _ _ ?_ (N₇ p (.tail _ hp)).1, (N₇ p (.tail _ hp)).2⟩
                  rcases List.mem_cons.mp hp with rfl | hp
                  · k_ne
                  · have := nlt p hp
                    exact neN (by k_extra "n:c")
              refine wpAny_mono (tst kk' v j t' J _ I oI _ oC8 _ _ zs h₈ _ _ hkm hkv hjn hoC8 (by simp [hxy, hmx]) (by simp) F₈ N₈) (fun ok s₉ hq => ?_) fun _ _ e => e
              obtain ⟨rfl, h₉, tk₉, rfl, F₉, N₉⟩ := hq
              cases hpz : pz kk' j with
              | false =>
                simp only [Bool.false_eq_true, if_false]
                refine ⟨n + 1 - (j + 1), cnt_down (by assumption), h₉, tk₉, j + 1, zs, _, rfl, hjn, rfl, by omega, (N₉ _ (.head _)).1, F₉, hoC8.ns (N₉ _ (.tail _ (.tail _ (.head _)))).1, by simp [hxy, hmx], fun p hp => N₉ p ?_, ?_⟩
                · rcases List.mem_cons.mp hp with rfl | hp
                  · exact .tail _ (.head _)
                  · exact .tail _ (.tail _ (.tail _ hp))
                · rw [hhit6]
                  refine or_congr Iff.rfl ⟨fun ⟨j', h1, h2⟩ => ⟨j', Nat.lt_succ_of_lt h1, h2⟩, fun ⟨j', h1, h2⟩ => ?_⟩
                  rcases Nat.lt_succ_iff_lt_or_eq.mp h1 with h1 | rfl
                  · exact ⟨j', h1, h2⟩
                  · rw [hpz] at h2; cases h2
              | true =>
                simp only [if_true]
                refine wpAny_mono (el kk' v j t' J _ I oI _ oC8 _ _ zs h₉ _ _ hkm hkv hjn hoC8 (by simp [hxy, hmx]) (by simp) F₉ N₉) (fun y' s₁₀ hq => ?_) fun _ _ e => e
                obtain ⟨ex, h₁₀, tk₁₀, rfl, F₁₀, N₁₀, rfl, -⟩ := hq
                have zD := N₁₀ (I + 1, LCg.lst zs) (.tail _ (.tail _ (.tail _ (.head _))))
                have hz2 : zs.length ≤ 5000 := by
                  have : i * n ≤ 50 * 50 := Nat.mul_le_mul (by omega) hn50
                  omega
                refine append_at (hsz := by rw [List.size_toArray, sizeLine_eq]; omega) zD.1 fun h₁₁ hs₁₁ hD₁₁ => ?_
                refine ⟨n + 1 - (j + 1), cnt_down (by assumption), h₁₁, tk₁₀, j + 1, zs ++ [y'], _, rfl, hjn, rfl, by rw [List.length_append, List.length_singleton]; omega, (hs₁₁.2 _ (neN (by k_extra "n:c"))).trans (N₁₀ _ (.head _)).1, F₁₀.change hs₁₁ zD.2.1 zD.2.2, (hoC8.ns (N₁₀ _ (.tail _ (.tail _ (.head _)))).1).sameBut hs₁₁ (neN (by k_extra "n:c")), by simp [hxy, hmx], fun p hp => ?_, ?_⟩
                · rcases List.mem_cons.mp hp with rfl | hp
                  · exact ⟨(hs₁₁.2 _ ((by k_ne))).trans (N₁₀ _ (.tail _ (.head _))).1, (N₁₀ _ (.tail _ (.head _))).2⟩
                  rcases List.mem_cons.mp hp with rfl | hp
                  · exact ⟨hD₁₁.trans (congrArg some (LCg.lst_snoc zs y')), zD.2⟩
                  · have z := N₁₀ p (.tail _ (.tail _ (.tail _ (.tail _ hp))))
                    have := nlt p hp
                    exact ⟨(hs₁₁.2 _ (neN (by k_extra "n:c"))).trans z.1, z.2⟩
                · exact ⟨fun _ => .inr ⟨j, Nat.lt_succ_self _, hpz⟩, fun _ => by simp⟩
            · obtain rfl : j = n := Nat.le_antisymm hj (Nat.not_lt.mp hjn)
              refine W2.done _ _ _ st6 fun h₇ tk₇ hk₇ => ?_
              have F₇ : Fr h₀ L h₇ m := LCg.fr_but F₆ hk₇ (Nat.ne_of_lt hJL) hJ₀
              have N₇ := LCg.news_but N₆ hk₇ offJ
              have stI := stOf (N₇ _ (.head _)).1 cI dI (fun p hp => N₇ p (.tail _ (.tail _ hp)))
              refine ⟨vs.length + 1 - (i + 1), cnt_down (by assumption), h₇, tk₇, i + 1, zs, _, rfl, hlt', rfl, by rw [Nat.succ_mul]; exact hzl, stI, F₇, hn₆.at' fun o e => hk₇ _ o (by simpa using Nat.ne_of_lt hJC) e, fun p hp => N₇ p (.tail _ hp), ?_⟩
              rw [hhit6, List.take_add_one, hkx]
              unfold Hit
              constructor
              · rintro (⟨a, ha, hb⟩ | ⟨j', h1, h2⟩)
                · exact ⟨a, List.mem_append_left _ ha, hb⟩
                · exact ⟨kk', List.mem_append_right _ (by simp), j', h1, h2⟩
              · rintro ⟨a, ha, j', h1, h2⟩
                rcases List.mem_append.mp ha with ha | ha
                · exact .inl ⟨a, ha, j', h1, h2⟩
                · simp at ha
                  subst ha
                  exact .inr ⟨j', h1, h2⟩
          · rcases List.mem_cons.mp hp with rfl | hp
            · exact .head _
            · exact .tail _ (.tail _ hp)
        exact two_start (by omega) inner (W2.self 0 _ _ _ st2 inner)
      · obtain rfl : i = vs.length := Nat.le_antisymm hi (Nat.not_lt.mp hlt')
        refine W.done _ _ _ (by rw [List.size_toArray]; exact st) fun h₂ tk₂ hk₂ => ?_
        have F₂ : Fr h₀ L h₂ m := LCg.fr_but F' hk₂ hIL hI₀
        have N₂ := LCg.news_but N' hk₂ offI
        rw [← hlen, List.take_length] at hhit
        refine ⟨_, hn'.at' fun o e => hk₂ _ o hCI e, fun h'' hs'' => fin (I + 1) h'' tk₂ ys (F₂.change hs'' hCL hC₀) (fun p hp => ?_) hhit ?_ fun p hp => ?_⟩
        · refine ⟨hs''.extBut _ _ ?_ (N₂ p hp).1, (N₂ p hp).2⟩
          rcases List.mem_cons.mp hp with rfl | hp
          · k_ne
          · have := nlt p hp
            exact neN (by k_extra "n:c")
        · have : vs.length * n ≤ 50 * 50 := Nat.mul_le_mul hsz hn50
          omega
        · have := nlt p hp
          show @LT.lt Nat _ p.1 (I + 1)
          omega
    · rcases List.mem_cons.mp hp with rfl | hp
      · exact ⟨gD, hDL, hD₀⟩
      · exact ⟨old _ _ (N p hp).1, (N p hp).2⟩
  exact two_start (by omega) (loop _ rfl) (W.self 0 _ _ _ st0 (loop _ rfl))
theorem all_cut : ∀ prog w A E s h₀ L m env elt iter iter2 ct x y px py scope cl pos Q s₁ news ax vs kk n h₁ I H1 H2, Pcut prog w A E s h₀ L m env elt iter iter2 ct x y px py scope cl pos Q s₁ news ax vs kk n h₁ I H1 H2 := by
  have h : Pcut prog w A E s h₀ L m env elt iter iter2 ct x y px py scope cl pos Q s₁ news ax vs kk n h₁ I H1 H2 := at_cut
  delta prog w A E s h₀ L m env elt iter iter2 ct x y px py scope cl pos Q s₁ news ax vs kk n h₁ I H1 H2 at h
  exact fun prog w A E s h₀ L m env elt iter iter2 ct x y px py scope cl pos Q s₁ news ax vs kk n h₁ I H1 H2 => Classical.choose_spec ex_cut h ((prog, w, A, E, s, h₀), (L, m, env, elt, iter, iter2), (ct, x, y, px, py, scope), (cl, pos, Q, s₁, news, ax), (vs, kk, n, h₁, I, H1), H2)
end K_lc2
theorem lc2 {prog : Program} {w : World} {A : Around} {E : Value → Shared → Prop} {s : Shared} {h₀ : Heap} {L : Addr} {m : Str → Option Value} {env : Env} {α : Type} {elt iter iter2 ct : PySem.Expr} {x y : Str} {px py : Pos} {scope : Scope} {cl : List (Str × Addr)} {pos : Pos} {Q : Value → Shared → Prop} (_F₀ : Fr h₀ L s.heap m)
    (hclos : closureFor scope env = pure cl) (hcell : ∀ y ∈ scope.names, y.2 ≠ .cell) (hkind : scope.kind = .function)
    (hnames : ∀ y ∈ scope.names, y.2 = .local → scope.names.lookup y.1 = some .local) (hx : scope.names.lookup x = some .local) (hy : scope.names.lookup y = some .local) (hxy : x ≠ y)
    (h : wpAny (model prog w) A (eval iter env) (Lc2.Src α prog w A h₀ L m env elt iter2 ct x y scope cl Q) E s)
    (hs : ∀ x, foldedSetIterable iter env x = pure x := by intro _; rfl) (hs2 : ∀ (env : Env) x, foldedSetIterable iter2 env x = pure x := by intro _ _; rfl) :
    wpAny (model prog w) A (eval (Two elt iter iter2 ct x y px py scope pos) env) Q E s := K_lc2.cut.2 (no_implicit_lambda% K_lc2.all_cut)             _F₀ hclos hcell hkind hnames hx hy hxy h hs hs2
section
variable {prog : Program} {w : World} {A : Around} {E : Value → Shared → Prop} {s : Shared} {h₀ : Heap} {L : Addr} {m : Str → Option Value} {env : Env} {α : Type}
end
end Mine
end
section
open PySem PySem.W PyProof.Rows PySem.Spec PySem.Calls PyProof.Rows.LSm
set_option maxRecDepth 100000
namespace Mine
/-- one list of columns is under another -/
noncomputable def dpr (a b : List Nat) : Bool := ((Plain.cols a).zip (Plain.cols b)).all fun p => decide (p.1 < p.2)
noncomputable abbrev colO (l : List Nat) (t1 t2 t3 t4 t5 : Tok) (n : Nat) : Obj := W.listOf #[.int (Plain.col 1 l) t1, .int (Plain.col 2 l) t2, .int (Plain.col 3 l) t3, .int (Plain.col 4 l) t4, .int (Plain.col 5 l) t5] n
theorem paired_bools {α : Type} {f : α → Bool} {V : α → Value → Prop} (hV : ∀ k y, V k y → y = .bool (f k)) : ∀ {as : List α} {ys : List Value}, Paired V as ys → BoolsAre ys (as.map f) := by
  intro as ys r
  induction r with
  | nil => exact .nil
  | cons h _ ih => rw [hV _ _ h]; exact .cons _ ih
theorem paired_eq {α : Type} {f : α → Value} {V : α → Value → List (Addr × Obj) → Prop} {exs : List (Addr × Obj)} (hV : ∀ k y ex, V k y ex → y = f k) : ∀ {as : List α} {ys : List Value}, Paired (VIn V exs) as ys → ys = as.map f := by
  intro as ys r
  induction r with
  | nil => rfl
  | cons h _ ih => obtain ⟨_, h, _⟩ := h; rw [List.map_cons, ← ih, ← hV _ _ _ h]


end Mine
end
section
theorem Mine.off_W42 : True := by (w_top off; trivial)
open PySem PySem.W PyProof.Rows PySem.Spec PySem.Calls PyProof.Rows.LSm
set_option maxRecDepth 100000
namespace Mine
open Plain (Wd)
theorem list_itemK {prog : Program} {w : World} {A : Around} {E : Value → Shared → Prop} {s : Shared} {h₀ : Heap} {L l : Addr} {news : List (Addr × Obj)} {value slice : PySem.Expr} {vs : List Value} {n k : Nat} {u : Tok} {v : Value} {Q : Value → Shared → Prop}
    (N : News h₀ L s.heap news) (hm : (l, ({ cls := .type "list", data := .seq vs.toArray n } : Obj)) ∈ news) (hk : k < 100) (hx : vs[k]? = some v) (h : Q v s)
    (hs : subscripted slice false (.ref l) (.int (k : Int) u) = operate [.ref l, .int (k : Int) u] (getItem (.ref l) (.int (k : Int) u)) := by with_unfolding_all rfl) :
    wpAny (model prog w) A (subscriptTail value slice (.ref l) (.int (k : Int) u)) Q E s :=
  have hl : s.heap.IsList l vs.toArray := ⟨_, (N _ hm).1, rfl, n, rfl⟩
  tail_any hl.typeIs slot_list_getitem.lookup (wpAny_getItem_list hl (by omega) (by omega) (by simpa using hx) h) hs
theorem abcde_item {prog : Program} {w : World} {A : Around} {E : Value → Shared → Prop} {s : Shared} {value slice : PySem.Expr} {k : Nat} {t u : Tok} {Q : Value → Shared → Prop} (hk : k < 5) (h : ∀ t' tk, Q (.str ⟨#[97 + k]⟩ t') { s with toks := tk })
    (hs : subscripted slice false (.str (Str.ofString "abcde") t) (.int (k : Int) u) = operate [.str (Str.ofString "abcde") t, .int (k : Int) u] (getItem (.str (Str.ofString "abcde") t) (.int (k : Int) u)) := by with_unfolding_all rfl) :
    wpAny (model prog w) A (subscriptTail value slice (.str (Str.ofString "abcde") t) (.int (k : Int) u)) Q E s := by
  refine tail_any (show s.TypeIs (.str _ t) "str" from rfl) PySem.F.slot_str_getitem.lookup (PySem.P.getItem_str (c := 97 + k) ((by decide +kernel : ∀ k : Nat, k < 5 → (decide ((k : Int) < -2 ^ 63) || decide ((k : Int) ≥ 2 ^ 63)) = false) k hk) ?_ (h _ _)) hs
  exact (by decide +kernel : ∀ k : Nat, k < 5 → ((seqIndex? (k : Int) (Str.ofString "abcde").length).bind fun x => (Str.ofString "abcde").cps[x]?) = some (97 + k)) k hk
def held_W42_1 : List String := "eval ListComp;exec Assign cons ListComp;Exists;Src;And;call builtin:all;call builtin:str.join;compareOp NotEq ref ref;setItem ref str;truthy ref;compareOp NotIn int ref;subscriptTail".splitOn ";"
local macro_rules | `(tactic| walk_at $s:str) => if held_W42_1.contains s.getString then `(tactic| (k_here; refine hold ?_)) else Lean.Macro.throwUnsupported
noncomputable def dprAt (ls : List (List Nat)) (j k : Nat) : Bool := match ls[j]?, ls[k]? with
  | some a, some b => dpr a b
  | _, _ => false
/-- one figure of the law's own reckoning -/
noncomputable def dueStep (rel : Nat → Nat → Bool) (t : List (Wd × Bool)) (f0 : Nat) : List (Wd × Bool) :=
  let held := Plain.heldOf (f0 + 1)
  if (held.any fun k => (List.range 5).any fun j => rel j k && !(held.contains j)) then t else
    let top := held.filter fun k => held.all fun j => j == k || rel j k
    let left := held.map fun k => held.filter fun j => j != k && !(rel k j)
    t ++ [(held, top != [] || !(left.all fun l => Plain.look l t == some true))]
theorem dueOf_eq (rel : Nat → Nat → Bool) : Plain.dueOf rel = (List.range 31).foldl (dueStep rel) [([], false)] := rfl
theorem news_cons2 {h₀ h : Heap} {L : Addr} {a : Addr × Obj} {b : List (Addr × Obj)} (N : News h₀ L h b) (hm : a ∈ b) : News h₀ L h (a :: b) := fun p hp => N p ((List.mem_cons.mp hp).elim (fun e => e ▸ hm) id)
noncomputable abbrev IsN (k : Nat) (v : Value) : Prop := ∃ t, v = Value.int (k : Int) t
theorem bit_eq : ∀ i : Nat, i < 31 → ∀ k : Nat, k < 5 → (Builtin.bitAnd ((1 + (i : Int)).fdiv (2 ^ ((k : Nat) : Int).toNat)) 1 != 0) = (i + 1).testBit k := by decide +kernel
theorem ints_of : ∀ {held : List Nat} {ys : List Value}, Paired IsN held ys → IntsAre ys (held.map fun k : Nat => (k : Int)) := by
  intro held ys r
  induction r with
  | nil => exact .nil
  | cons h _ ih => obtain ⟨t, e⟩ := h; rw [e]; exact .cons _ t ih
theorem any_int (held : List Nat) (j : Nat) : (held.map fun k : Nat => (k : Int)).any (· == (j : Int)) = held.contains j := by
  rw [List.any_map, Bool.eq_iff_iff, List.any_eq_true]
  simp only [Function.comp, beq_iff_eq, List.contains_iff_mem]
  exact ⟨fun ⟨x, hx, e⟩ => (Int.ofNat_inj.mp e) ▸ hx, fun h => ⟨j, h, rfl⟩⟩
theorem notin_K {prog : Program} {w : World} {A : Around} {E : Value → Shared → Prop} {s : Shared} {h₀ : Heap} {L D : Addr} {news : List (Addr × Obj)} {held : List Nat} {ys : List Value} {n j : Nat} {t : Tok} {Q : Value → Shared → Prop} (N : News h₀ L s.heap news) (hm : (D, ({ cls := .type "list", data := .seq ys.toArray n } : Obj)) ∈ news) (hy : Paired IsN held ys)
    (h : Q (.bool (!(held.contains j))) s) : wpAny (model prog w) A (compareOp .NotIn (.int (j : Int) t) (.ref D)) Q E s :=
  notin_list_ints ⟨_, (N _ hm).1, rfl, n, rfl⟩ (ints_of hy) (by rw [any_int]; exact h)
theorem row_of {tl : List (Addr × Obj)} {rv : List Value} : ∀ {ls l0 : List (List Nat)}, Paired (fun l y => ∃ D', y = Value.ref D' ∧ (D', LCg.lst (l0.map fun l2 => Value.bool (dpr l l2))) ∈ tl) ls rv → ∀ {j : Nat} {l : List Nat}, ls[j]? = some l → ∃ Dj, rv[j]? = some (.ref Dj) ∧ (Dj, LCg.lst (l0.map fun l2 => Value.bool (dpr l l2))) ∈ tl := by
  intro ls l0 h
  induction h with
  | nil => intro j l h; simp at h
  | cons hd _ ih =>
    intro j l h
    cases j with
    | zero => obtain ⟨D', e, hm⟩ := hd; obtain rfl := Option.some.inj h; exact ⟨D', congrArg some e, hm⟩
    | succ j => exact ih h
theorem row_at2 {tl : List (Addr × Obj)} {rv : List Value} {ls : List (List Nat)} (hls : ls.length = 5) (h : Paired (fun l y => ∃ D', y = Value.ref D' ∧ (D', LCg.lst (ls.map fun l2 => Value.bool (dpr l l2))) ∈ tl) ls rv) {j : Nat} (hj : j < 5) :
    ∃ Dj row, rv[j]? = some (.ref Dj) ∧ (Dj, LCg.lst row) ∈ tl ∧ ∀ k, k < 5 → row[k]? = some (Value.bool (dprAt ls j k)) := by
  have hjl : ls[j]? = some ls[j] := List.getElem?_eq_getElem (by omega)
  obtain ⟨Dj, h1, h2⟩ := row_of h hjl
  refine ⟨Dj, _, h1, h2, fun k hk => ?_⟩
  have hkl : ls[k]? = some ls[k] := List.getElem?_eq_getElem (by omega)
  rw [List.getElem?_map, hkl]
  simp [dprAt, hjl, hkl]
theorem paired_map {α β γ : Type} {V : β → γ → Prop} {f : α → β} : ∀ {as : List α} {ys : List γ}, Paired (fun k y => V (f k) y) as ys → Paired V (as.map f) ys := by
  intro as ys r
  induction r with
  | nil => exact .nil
  | cons h _ ih => exact .cons h ih
theorem paired_strs {V : Nat → Value → List (Addr × Obj) → Prop} {exs : List (Addr × Obj)} (hV : ∀ k y ex, V k y ex → ∃ t, y = Value.str (sgn (97 + k)) t) : ∀ {as : List Nat} {ys : List Value}, Paired (VIn V exs) as ys → StrsAre ys ((wdL as).map sgn) := by
  intro as ys r
  induction r with
  | nil => exact .nil
  | cons h _ ih =>
    obtain ⟨_, h, _⟩ := h
    obtain ⟨t, e⟩ := hV _ _ _ h
    rw [e]
    exact .cons _ t ih
theorem wd_weight (l : Wd) (h : l.length ≤ 5) : (((wdL l).map sgn).map (·.length)).sum + ((wdL l).map sgn).length ≤ 1048576 := by
  rw [List.map_map, show (fun x : Str => x.length) ∘ sgn = fun _ => 1 from rfl, List.map_const', List.sum_replicate_nat]
  simp only [List.length_map]
  omega
theorem stored_none' {K : Type} [DecidableEq K] {kvs : List (K × Value)} {k : K} {v : Value} (h : k ∉ kvs.map Prod.fst) : stored kvs k v = kvs ++ [(k, v)] := by
  unfold stored
  rw [if_neg]
  intro ha
  obtain ⟨p, hp, e⟩ := List.any_eq_true.mp ha
  exact h (List.mem_map.mpr ⟨p, hp, by simpa using e⟩)
theorem due_fst (t : List (Wd × Bool)) : (t.map fun e => (wdS e.1, Value.bool e.2)).map Prod.fst = (t.map (·.1)).map wdS := by simp
theorem due_look {t : List (Wd × Bool)} (hn : (t.map (·.1)).Nodup) {w : Wd} (hw : w ∈ t.map (·.1)) : valueAt (t.map fun e => (wdS e.1, Value.bool e.2)) (wdS w) = some (.bool (Plain.look w t == some true)) := by
  obtain ⟨e, he, rfl⟩ := List.mem_map.mp hw
  have h1 : Plain.look e.1 t = some e.2 := by
    unfold Plain.look
    clear hw
    induction t with
    | nil => cases he
    | cons a r ih =>
      rw [List.map_cons, List.nodup_cons] at hn
      rw [List.find?_cons]
      rcases List.mem_cons.mp he with rfl | he
      · simp
      · have hne : a.1 ≠ e.1 := fun q => hn.1 (q ▸ List.mem_map.mpr ⟨_, he, rfl⟩)
        rw [show (a.1 == e.1) = false by simpa using hne]
        exact ih hn.2 he
  rw [h1]
  refine valueAt_mem ?_ (List.mem_map.mpr ⟨e, he, by simp⟩)
  rw [due_fst]
  exact List.Pairwise.map _ (fun a b hab e => hab (wdS_inj e)) hn
noncomputable abbrev dueK (t : List (Wd × Bool)) : List (Str × Value) := t.map fun e => (wdS e.1, Value.bool e.2)

namespace K_due_turn
set_option maxHeartbeats 1000000 in
noncomputable def cut : (@Subtype Prop fun P => P → ∀ {w : World} {p : Program} {loose : List Str} {mean : ExcName → Option Value} {mg mb : Str → Option Value} {A₀ : Around} {base g' : Heap} {L' : Addr} {m : Str → Option Value} {cn : Str} {cs : Scope} {ca L : Addr} {ccd : Value} {cl : List (Str × Addr)} {outer : List Env} {gd : Option (List Code)} {s : Shared} {Q : Flow → Shared → Prop} {E : Value → Shared → Prop} {name qual : Str} {params : Arguments} {pre rest rr fore fbody : List Stmt} {ftgt fiter : PySem.Expr} {fpos : Pos} {scope : Scope} {dV kV doc pm cdv ct oc : Value} {an od0 : Option Addr} {osl : Array (Option Value)} (hb : (Mine.hd.heap_39 w.params).lookup 160 = some ⟨oc, od0, .func (fnOf name qual params (pre ++ rest) scope dV kV doc pm an cdv ct), osl⟩) (hpre : pre.length = 3) (hrest : rest = .For ftgt fiter fbody fore fpos :: rr) {tl : List (Addr × Obj)} {dd D2 : Addr} {od oh ofig odue odeep ocol : Obj} {rv : List Value} {ls : List (List Nat)} {t : List (Wd × Bool)} {i : Nat} {tf : Tok} {hv : Option Value} (B : Below A₀ base (envX cn cs L ca ccd cl :: outer) g') (F : Fr g' L' s.heap m) (X : (Mine.hd.heap_39 w.params).In g') (T : Top p loose mean mg mb g') (N : News g' L' s.heap ((L' + 1 + 1 + 1 + 1, ofig) :: (L' + 1 + 1 + 1 + 1 + 1, oh) :: (L' + 1 + 1 + 1, odue) :: (dd, od) :: (L' + 1 + 1, odeep) :: (L' + 1, ocol) :: (D2, LCg.lst rv) :: tl)) (df : ofig.data = .cell (some (.int (1 + (i : Int)) tf))) (dh : oh.data = .cell hv) (du : odue.data = .cell (some (.ref dd))) (dp : odeep.data = .cell (some (.ref D2))) (hi : i < 31) (hls : ls.length = 5) (hrows : Paired (fun l y => ∃ D', y = Value.ref D' ∧ (D', LCg.lst (ls.map fun l2 => Value.bool (dpr l l2))) ∈ tl) ls rv) (hod : od.IsDictOf (PySem.strKind Challenge.rw_pg0196_01.row.prog w) (dueK t)) (ht : t.length ≤ 100) (hnd : (t.map (·.1)).Nodup) (hnew : Plain.heldOf (i + 1) ∉ t.map (·.1)) (hknown : ((Plain.heldOf (i + 1)).any fun k => (List.range 5).any fun j => dprAt ls j k && !((Plain.heldOf (i + 1)).contains j)) = false → ∀ k ∈ Plain.heldOf (i + 1), ((Plain.heldOf (i + 1)).filter fun j => j != k && !(dprAt ls k j)) ∈ t.map (·.1)) (hsys : (dd == sysModules) = false) (o1 : ∀ p ∈ tl, p.1 ≠ L' + 1 + 1 + 1 + 1 + 1) (o2 : ∀ p ∈ tl, p.1 ≠ dd) (e1 : @Ne Nat dd (L' + 1)) (e2 : @Ne Nat dd (L' + 1 + 1)) (e3 : @Ne Nat dd (L' + 1 + 1 + 1)) (e4 : @Ne Nat dd (L' + 1 + 1 + 1 + 1)) (e5 : @Ne Nat dd (L' + 1 + 1 + 1 + 1 + 1)) (e6 : @Ne Nat dd D2) (e7 : @Ne Nat (L' + 1 + 1 + 1 + 1 + 1) D2) (h : ∀ h' tk' m' oh' hv' od', Fr g' L' h' m' → (∀ z, z ≠ Str.ofString "top" → z ≠ Str.ofString "left" → m' z = m z) → oh'.data = .cell hv' →
      News g' L' h' ((L' + 1 + 1 + 1 + 1, ofig) :: (L' + 1 + 1 + 1 + 1 + 1, oh') :: (L' + 1 + 1 + 1, odue) :: (dd, od') :: (L' + 1 + 1, odeep) :: (L' + 1, ocol) :: (D2, LCg.lst rv) :: tl) →
      od'.IsDictOf (PySem.strKind Challenge.rw_pg0196_01.row.prog w) (dueK (dueStep (dprAt ls) t i)) → Q .next { s with heap := h', toks := tk' }), wpAny (model Challenge.rw_pg0196_01.row.prog w) ((At 40 gd (envX cn cs L ca ccd cl :: outer)).deeper (envOfC qual scope L' 160 cdv)) (execs fbody (envOfC qual scope L' 160 cdv)) Q E s) := by
  refine' mkCut fun hole => ?_
  rotate_left
  focus
  intro w p loose mean mg mb A₀ base g' L' m cn cs ca L ccd cl outer gd s Q E name qual params pre rest rr fore fbody ftgt fiter fpos scope dV kV doc pm cdv ct oc an od0 osl hb hpre hrest tl dd D2 od oh ofig odue odeep ocol rv ls t i tf hv B F X T N df dh du dp hi hls hrows hod ht hnd hnew hknown hsys o1 o2 e1 e2 e3 e4 e5 e6 e7 h
  revert X
  k_fill
  intro X
  refine' use_look hb ?hlk ?_
  case hlk => k_is
  intro hb2
  injection hb2 with q1 q2 q3 q4
  injection q3 with q3
  injection q3 with r1 r2 r3 r4 r5 r6 r7 r8 r9 r10 r11 r12 r13 r14 r15
  injection r4 with r4
  have hr : rest = (pre ++ rest).drop 3 := by rw [← hpre]; simp
  rw [← r4] at hr
  dsimp only [List.drop] at hr
  clear hb r4
  rw [hrest] at hr
  injection hr with hr1 hr2
  injection hr1 with hr7 hr8 hr9 hr10 hr11
  subst hr9 r2 r5 r13
  have fF := F
  clear F
  revert hpre B T N df dh du dp hi hls hrows hod ht hnd hnew hknown hsys o1 o2 e1 e2 e3 e4 e5 e6 e7 h X q1 q2 q4 r1 r3 r6 r7 r8 r9 r10 r11 r12 r14 r15 hr2 hr7 hr8 hr10 hr11 hrest fF
  revert w p loose mean mg mb A₀ base g' L' m cn cs ca L ccd cl outer gd s Q E name params pre rest rr fore ftgt fiter fpos dV kV doc pm ct oc an od0 osl tl dd D2 od oh ofig odue odeep ocol rv ls t i tf hv
  exact no_implicit_lambda% hole.get
noncomputable section
noncomputable def Pcut : (World) → (Program) → (List Str) → (ExcName → Option Value) → (Str → Option Value) → (Str → Option Value) → (Around) → (Heap) → (Heap) → (Addr) → (Str → Option Value) → (Str) → (Scope) → (Addr) → (Addr) → (Value) → (List (Str × Addr)) → (List Env) → (Option (List Code)) → (Shared) → (Flow → Shared → Prop) → (Value → Shared → Prop) → (Str) → (Arguments) → (List Stmt) → (List Stmt) → (List Stmt) → (List Stmt) → (Expr) → (Expr) → (Pos) → (Value) → (Value) → (Value) → (Value) → (Value) → (Value) → (Option Addr) → (Option Addr) → (Array (Option Value)) → (List (Addr × Obj)) → (Addr) → (Addr) → (Obj) → (Obj) → (Obj) → (Obj) → (Obj) → (Obj) → (List Value) → (List (List Nat)) → (List (Wd × Bool)) → (Nat) → (Tok) → (Option Value) → Prop := (@id (∀ {Rcut : (World) → (Program) → (List Str) → (ExcName → Option Value) → (Str → Option Value) → (Str → Option Value) → (Around) → (Heap) → (Heap) → (Addr) → (Str → Option Value) → (Str) → (Scope) → (Addr) → (Addr) → (Value) → (List (Str × Addr)) → (List Env) → (Option (List Code)) → (Shared) → (Flow → Shared → Prop) → (Value → Shared → Prop) → (Str) → (Arguments) → (List Stmt) → (List Stmt) → (List Stmt) → (List Stmt) → (Expr) → (Expr) → (Pos) → (Value) → (Value) → (Value) → (Value) → (Value) → (Value) → (Option Addr) → (Option Addr) → (Array (Option Value)) → (List (Addr × Obj)) → (Addr) → (Addr) → (Obj) → (Obj) → (Obj) → (Obj) → (Obj) → (Obj) → (List Value) → (List (List Nat)) → (List (Wd × Bool)) → (Nat) → (Tok) → (Option Value) → Prop}, cut.1 = (∀ w p loose mean mg mb A₀ base g' L' m cn cs ca L ccd cl outer gd s Q E name params pre rest rr fore ftgt fiter fpos dV kV doc pm ct oc an od0 osl tl dd D2 od oh ofig odue odeep ocol rv ls t i tf hv, Rcut w p loose mean mg mb A₀ base g' L' m cn cs ca L ccd cl outer gd s Q E name params pre rest rr fore ftgt fiter fpos dV kV doc pm ct oc an od0 osl tl dd D2 od oh ofig odue odeep ocol rv ls t i tf hv) → _) fun {Rcut} _ => Rcut) rfl
noncomputable def Tcut : Type := (World × Program × (List Str) × (ExcName → Option Value) × (Str → Option Value) × (Str → Option Value) × Around × Heap) × (Heap × Addr × (Str → Option Value) × Str × Scope × Addr × Addr × Value) × ((List (Str × Addr)) × (List Env) × (Option (List Code)) × Shared × (Flow → Shared → Prop) × (Value → Shared → Prop) × Str × Arguments) × ((List Stmt) × (List Stmt) × (List Stmt) × (List Stmt) × Expr × Expr × Pos × Value) × (Value × Value × Value × Value × Value × (Option Addr) × (Option Addr) × (Array (Option Value))) × ((List (Addr × Obj)) × Addr × Addr × Obj × Obj × Obj × Obj × Obj) × (Obj × (List Value) × (List (List Nat)) × (List (Wd × Bool)) × Nat × Tok × (Option Value))
noncomputable def Qcut (x : Tcut) : Prop := Pcut x.1.1 x.1.2.1 x.1.2.2.1 x.1.2.2.2.1 x.1.2.2.2.2.1 x.1.2.2.2.2.2.1 x.1.2.2.2.2.2.2.1 x.1.2.2.2.2.2.2.2 x.2.1.1 x.2.1.2.1 x.2.1.2.2.1 x.2.1.2.2.2.1 x.2.1.2.2.2.2.1 x.2.1.2.2.2.2.2.1 x.2.1.2.2.2.2.2.2.1 x.2.1.2.2.2.2.2.2.2 x.2.2.1.1 x.2.2.1.2.1 x.2.2.1.2.2.1 x.2.2.1.2.2.2.1 x.2.2.1.2.2.2.2.1 x.2.2.1.2.2.2.2.2.1 x.2.2.1.2.2.2.2.2.2.1 x.2.2.1.2.2.2.2.2.2.2 x.2.2.2.1.1 x.2.2.2.1.2.1 x.2.2.2.1.2.2.1 x.2.2.2.1.2.2.2.1 x.2.2.2.1.2.2.2.2.1 x.2.2.2.1.2.2.2.2.2.1 x.2.2.2.1.2.2.2.2.2.2.1 x.2.2.2.1.2.2.2.2.2.2.2 x.2.2.2.2.1.1 x.2.2.2.2.1.2.1 x.2.2.2.2.1.2.2.1 x.2.2.2.2.1.2.2.2.1 x.2.2.2.2.1.2.2.2.2.1 x.2.2.2.2.1.2.2.2.2.2.1 x.2.2.2.2.1.2.2.2.2.2.2.1 x.2.2.2.2.1.2.2.2.2.2.2.2 x.2.2.2.2.2.1.1 x.2.2.2.2.2.1.2.1 x.2.2.2.2.2.1.2.2.1 x.2.2.2.2.2.1.2.2.2.1 x.2.2.2.2.2.1.2.2.2.2.1 x.2.2.2.2.2.1.2.2.2.2.2.1 x.2.2.2.2.2.1.2.2.2.2.2.2.1 x.2.2.2.2.2.1.2.2.2.2.2.2.2 x.2.2.2.2.2.2.1 x.2.2.2.2.2.2.2.1 x.2.2.2.2.2.2.2.2.1 x.2.2.2.2.2.2.2.2.2.1 x.2.2.2.2.2.2.2.2.2.2.1 x.2.2.2.2.2.2.2.2.2.2.2.1 x.2.2.2.2.2.2.2.2.2.2.2.2
theorem ex_cut : ∃ x : Tcut, Qcut x → ∀ y, Qcut y := by
  haveI := neW; haveI := neA; haveI := neS
  haveI : Nonempty Tcut := by unfold Tcut; set_option synthInstance.maxSize 2000 in infer_instance
  exact henk1 Qcut
noncomputable def Ccut : Tcut := Classical.choose ex_cut
@[irreducible] noncomputable def w : World := Ccut.1.1
@[irreducible] noncomputable def p : Program := Ccut.1.2.1
@[irreducible] noncomputable def loose : List Str := Ccut.1.2.2.1
@[irreducible] noncomputable def mean : ExcName → Option Value := Ccut.1.2.2.2.1
@[irreducible] noncomputable def mg : Str → Option Value := Ccut.1.2.2.2.2.1
@[irreducible] noncomputable def mb : Str → Option Value := Ccut.1.2.2.2.2.2.1
@[irreducible] noncomputable def A₀ : Around := Ccut.1.2.2.2.2.2.2.1
@[irreducible] noncomputable def base : Heap := Ccut.1.2.2.2.2.2.2.2
@[irreducible] noncomputable def g' : Heap := Ccut.2.1.1
@[irreducible] noncomputable def L' : Addr := Ccut.2.1.2.1
@[irreducible] noncomputable def m : Str → Option Value := Ccut.2.1.2.2.1
@[irreducible] noncomputable def cn : Str := Ccut.2.1.2.2.2.1
@[irreducible] noncomputable def cs : Scope := Ccut.2.1.2.2.2.2.1
@[irreducible] noncomputable def ca : Addr := Ccut.2.1.2.2.2.2.2.1
@[irreducible] noncomputable def L : Addr := Ccut.2.1.2.2.2.2.2.2.1
@[irreducible] noncomputable def ccd : Value := Ccut.2.1.2.2.2.2.2.2.2
@[irreducible] noncomputable def cl : List (Str × Addr) := Ccut.2.2.1.1
@[irreducible] noncomputable def outer : List Env := Ccut.2.2.1.2.1
@[irreducible] noncomputable def gd : Option (List Code) := Ccut.2.2.1.2.2.1
@[irreducible] noncomputable def s : Shared := Ccut.2.2.1.2.2.2.1
@[irreducible] noncomputable def Q : Flow → Shared → Prop := Ccut.2.2.1.2.2.2.2.1
@[irreducible] noncomputable def E : Value → Shared → Prop := Ccut.2.2.1.2.2.2.2.2.1
@[irreducible] noncomputable def name : Str := Ccut.2.2.1.2.2.2.2.2.2.1
@[irreducible] noncomputable def params : Arguments := Ccut.2.2.1.2.2.2.2.2.2.2
@[irreducible] noncomputable def pre : List Stmt := Ccut.2.2.2.1.1
@[irreducible] noncomputable def rest : List Stmt := Ccut.2.2.2.1.2.1
@[irreducible] noncomputable def rr : List Stmt := Ccut.2.2.2.1.2.2.1
@[irreducible] noncomputable def fore : List Stmt := Ccut.2.2.2.1.2.2.2.1
@[irreducible] noncomputable def ftgt : Expr := Ccut.2.2.2.1.2.2.2.2.1
@[irreducible] noncomputable def fiter : Expr := Ccut.2.2.2.1.2.2.2.2.2.1
@[irreducible] noncomputable def fpos : Pos := Ccut.2.2.2.1.2.2.2.2.2.2.1
@[irreducible] noncomputable def dV : Value := Ccut.2.2.2.1.2.2.2.2.2.2.2
@[irreducible] noncomputable def kV : Value := Ccut.2.2.2.2.1.1
@[irreducible] noncomputable def doc : Value := Ccut.2.2.2.2.1.2.1
@[irreducible] noncomputable def pm : Value := Ccut.2.2.2.2.1.2.2.1
@[irreducible] noncomputable def ct : Value := Ccut.2.2.2.2.1.2.2.2.1
@[irreducible] noncomputable def oc : Value := Ccut.2.2.2.2.1.2.2.2.2.1
@[irreducible] noncomputable def an : Option Addr := Ccut.2.2.2.2.1.2.2.2.2.2.1
@[irreducible] noncomputable def od0 : Option Addr := Ccut.2.2.2.2.1.2.2.2.2.2.2.1
@[irreducible] noncomputable def osl : Array (Option Value) := Ccut.2.2.2.2.1.2.2.2.2.2.2.2
@[irreducible] noncomputable def tl : List (Addr × Obj) := Ccut.2.2.2.2.2.1.1
@[irreducible] noncomputable def dd : Addr := Ccut.2.2.2.2.2.1.2.1
@[irreducible] noncomputable def D2 : Addr := Ccut.2.2.2.2.2.1.2.2.1
@[irreducible] noncomputable def od : Obj := Ccut.2.2.2.2.2.1.2.2.2.1
@[irreducible] noncomputable def oh : Obj := Ccut.2.2.2.2.2.1.2.2.2.2.1
@[irreducible] noncomputable def ofig : Obj := Ccut.2.2.2.2.2.1.2.2.2.2.2.1
@[irreducible] noncomputable def odue : Obj := Ccut.2.2.2.2.2.1.2.2.2.2.2.2.1
@[irreducible] noncomputable def odeep : Obj := Ccut.2.2.2.2.2.1.2.2.2.2.2.2.2
@[irreducible] noncomputable def ocol : Obj := Ccut.2.2.2.2.2.2.1
@[irreducible] noncomputable def rv : List Value := Ccut.2.2.2.2.2.2.2.1
@[irreducible] noncomputable def ls : List (List Nat) := Ccut.2.2.2.2.2.2.2.2.1
@[irreducible] noncomputable def t : List (Wd × Bool) := Ccut.2.2.2.2.2.2.2.2.2.1
@[irreducible] noncomputable def i : Nat := Ccut.2.2.2.2.2.2.2.2.2.2.1
@[irreducible] noncomputable def tf : Tok := Ccut.2.2.2.2.2.2.2.2.2.2.2.1
@[irreducible] noncomputable def hv : Option Value := Ccut.2.2.2.2.2.2.2.2.2.2.2.2
end
set_option maxHeartbeats 1000000 in
theorem at_cut : Pcut w p loose mean mg mb A₀ base g' L' m cn cs ca L ccd cl outer gd s Q E name params pre rest rr fore ftgt fiter fpos dV kV doc pm ct oc an od0 osl tl dd D2 od oh ofig odue odeep ocol rv ls t i tf hv := by
  intro hpre B T N df dh du dp hi hls hrows hod ht hnd hnew hknown hsys o1 o2 e1 e2 e3 e4 e5 e6 e7 h X q1 q2 q4 r1 r3 r6 r7 r8 r9 r10 r11 r12 r14 r15 hr2 hr7 hr8 hr10 hr11 hrest fF
  k_steps
  refine unhold ?_; walk_at "exec Assign"; k_steps
  unfold Hold
  have gF2 := fF
  k_dflt (refine' lcT (α := Nat) gF2 ?hclos ?hcell ?hkind ?hnames ?hx ?_)
  case hclos => with_unfolding_all rfl
  case hcell => decide
  case hkind => rfl
  case hnames => decide
  case hx => rfl
  k_steps
  unfold Hold
  (rename Fr g' _ _ _ => gF); (rename News g' _ _ _ => gN); (rename IsRange _ _ _ _ _ _ _ _ => gR)
  refine ⟨_, List.range 5, fun k v => ∃ t, v = Value.int (k : Int) t, fun k => (i + 1).testBit k, fun k y ex => (∃ t, y = Value.int (k : Int) t) ∧ ex = [], rfl, gF, gN, .rng gR (by rfl) (by rfl) (by rw [sizeLine_eq]; decide) ?srcp, ?tst, ?el, ?fin⟩
  case srcp =>
    intro i2 k hk t2
    have hi2 : i2 < 5 := by have := (List.getElem?_eq_some_iff.mp hk).1; simpa using this
    have : k = i2 := by rw [List.getElem?_range hi2] at hk; exact (Option.some.inj hk).symm
    exact ⟨t2, by rw [this]; simp⟩
  case tst =>
    rintro k v I oI C oC D m₂ ys exs h5 tk5 E' hk ⟨t2, rfl⟩ hC hx hown F5 N5
    have hx0 := hown.none (fun _ _ _ h => h.2)
    subst hx0
    have hk5 : k < 5 := List.mem_range.mp hk
    clear gF gN gR
    walk1
    walk1
    walk1
    walk1
    walk1
    walk1
    walk1
    walk1
    walk1
    exact ⟨bit_eq i hi k hk5, _, _, rfl, F5, N5⟩
  case el =>
    rintro k v I oI C oC D m₂ ys exs h5 tk5 E' hk ⟨t2, rfl⟩ hC hx hown F5 N5 hpz
    clear gF gN gR
    walk1
    exact ⟨[], _, _, rfl, F5, N5, ⟨⟨_, rfl⟩, rfl⟩, List.forall_mem_nil _⟩
  case fin =>
    intro D h5 tk5 ys exs F5 N5 hown hy hD
    have hx0 := hown.none (fun _ _ _ h => h.2)
    subst hx0
    clear gF gN gR
    dsimp only [List.nil_append] at N5 hD
    have g4 : @Ne Nat (L' + 1 + 1 + 1 + 1) D := hD (L' + 1 + 1 + 1 + 1, ofig) (.head _)
    have g5 : @Ne Nat (L' + 1 + 1 + 1 + 1 + 1) D := hD (L' + 1 + 1 + 1 + 1 + 1, oh) (.tail _ (.head _))
    have g3 : @Ne Nat (L' + 1 + 1 + 1) D := hD (L' + 1 + 1 + 1, odue) (.tail _ (.tail _ (.head _)))
    have gd1 : @Ne Nat dd D := hD (dd, od) (.tail _ (.tail _ (.tail _ (.head _))))
    have g2 : @Ne Nat (L' + 1 + 1) D := hD (L' + 1 + 1, odeep) (.tail _ (.tail _ (.tail _ (.tail _ (.head _)))))
    have g1 : @Ne Nat (L' + 1) D := hD (L' + 1, ocol) (.tail _ (.tail _ (.tail _ (.tail _ (.tail _ (.head _))))))
    have gD2 : @Ne Nat D2 D := hD (D2, LCg.lst rv) (.tail _ (.tail _ (.tail _ (.tail _ (.tail _ (.tail _ (.head _)))))))
    have gt : ∀ p ∈ tl, p.1 ≠ D := fun p hp => hD p (.tail _ (.tail _ (.tail _ (.tail _ (.tail _ (.tail _ (.tail _ hp)))))))
    k_steps
    unfold Hold
    (rename Fr g' _ _ _ => gF); (rename News g' _ _ _ => gN)
    rename_i q1 oh2 dh2
    have hheld : Plain.heldOf (i + 1) = (List.range 5).filter fun k => (i + 1).testBit k := rfl
    rw [← hheld] at hy
    have hy2 : Paired IsN (Plain.heldOf (i + 1)) ys := Paired.mono' (fun k v ⟨ex, h1, h2⟩ => h1.1) hy
    clear hy hD
    have hh5 : ∀ k ∈ Plain.heldOf (i + 1), k < 5 := fun k hk => List.mem_range.mp (List.mem_filter.mp hk).1
    have hhl : (Plain.heldOf (i + 1)).length ≤ 5 := by
      have := List.length_filter_le (fun k => (i + 1).testBit k) (List.range 5)
      rwa [List.length_range] at this
    have hyl : ys.length ≤ 5 := by rw [← paired_len hy2]; exact hhl
    clear hheld
    generalize hH : Plain.heldOf (i + 1) = held at *
    have gF2 := gF
    k_dflt (refine' lc2 (α := Nat) gF2 ?hclos ?hcell ?hkind ?hnames ?hx ?hy ?hxy ?_)
    case hclos => with_unfolding_all rfl
    case hcell => decide
    case hkind => rfl
    case hnames => decide
    case hx => rfl
    case hy => rfl
    case hxy => decide
    k_steps
    unfold Hold
    clear gF2
    refine ⟨_, D, ys, ys.length, held, IsN, 5, fun k j => dprAt ls j k && !(held.contains j), rfl, rfl, gF, gN, .head _, (by omega), hy2, (by omega), ?src2, ?tst2, ?el2, ?fin2⟩
    case src2 =>
      rintro k v I oI C oC D' m₂ ys2 h6 tk6 E' hk ⟨t2, rfl⟩ hC hx F6 N6
      clear gF gN
      k_steps
      unfold Hold
      (rename Fr g' _ _ _ => kF); (rename News g' _ _ _ => kN); (rename IsRange _ _ _ _ _ _ _ _ => kR)
      exact ⟨_, _, _, _, _, _, rfl, rfl, kF, kN, kR⟩
    case tst2 =>
      rintro k v j t2 J oJ I oI C oC D' m₂ ys2 h6 tk6 E' hk ⟨t3, rfl⟩ hj hC hx hxj F6 N6
      clear gF gN
      have hk5 := hh5 k hk
      obtain ⟨Dj, row, hr1, hr2, hr3⟩ := row_at2 hls hrows hj
      have hr4 := hr3 k hk5
      have N7 : News g' L' h6 ((Dj, LCg.lst row) :: (J, oJ) :: (I, oI) :: (C, oC) :: (D', LCg.lst ys2) :: (D, LCg.lst ys) :: (L' + 1 + 1 + 1 + 1, ofig) :: (L' + 1 + 1 + 1 + 1 + 1, oh2) :: (L' + 1 + 1 + 1, odue) :: (dd, od) :: (L' + 1 + 1, odeep) :: (L' + 1, ocol) :: (D2, LCg.lst rv) :: tl) := fun p hp => by
        rcases List.mem_cons.mp hp with rfl | hp
        · exact N6 _ (by repeat (first | exact hr2 | refine List.mem_cons_of_mem _ ?_))
        · exact N6 p hp
      clear N6 hr2
      cases hb : dprAt ls j k with
      | false =>
        rw [hb] at hr4
        k_steps; repeat' (first | (refine unhold ?_; (first | ((with_reducible show wpAny _ _ (subscriptTail _ _ (Value.ref _) (Value.int _ _)) _ _ _); k_dflt (refine' list_itemK ?Nzq ?mzq ?kzq ?izq ?_; (case Nzq => k_asm); (case mzq => k_mem); (case kzq => omega); (case izq => assumption))) | ((with_reducible show wpAny _ _ (subscriptTail _ _ (Value.str _ _) (Value.int _ _)) _ _ _); k_dflt (refine' abcde_item ?kzq ?_; (case kzq => omega)); intro t' tk'; (try (revert t' tk'; intros))) | ((with_reducible show wpAny _ _ (subscriptTail _ _ (Value.ref _) (Value.str _ _)) _ _ _); k_dflt (refine kda_item (knd := PySem.strKind _ _) (by k_asm) (by k_mem) (by k_asm) (strKind_is _ _ _ _) (by assumption) ?_))); (try k_steps)))
        unfold Hold
        (rename Fr g' _ _ _ => kF); (rename News g' _ _ _ => kN)
        exact ⟨by first | rfl | (show false = (dprAt ls j k && _); rw [hb]; rfl), _, _, rfl, kF, fun p hp => kN p (.tail _ hp)⟩
      | true =>
        rw [hb] at hr4
        k_steps; repeat' (first | (refine unhold ?_; (first | ((with_reducible show wpAny _ _ (subscriptTail _ _ (Value.ref _) (Value.int _ _)) _ _ _); k_dflt (refine' list_itemK ?Nzq ?mzq ?kzq ?izq ?_; (case Nzq => k_asm); (case mzq => k_mem); (case kzq => omega); (case izq => assumption))) | ((with_reducible show wpAny _ _ (subscriptTail _ _ (Value.str _ _) (Value.int _ _)) _ _ _); k_dflt (refine' abcde_item ?kzq ?_; (case kzq => omega)); intro t' tk'; (try (revert t' tk'; intros))) | ((with_reducible show wpAny _ _ (subscriptTail _ _ (Value.ref _) (Value.str _ _)) _ _ _); k_dflt (refine kda_item (knd := PySem.strKind _ _) (by k_asm) (by k_mem) (by k_asm) (strKind_is _ _ _ _) (by assumption) ?_))); (try k_steps)))
        unfold Hold
        (rename Fr g' _ _ _ => kF); (rename News g' _ _ _ => kN)
        k_dflt (refine' notin_K kN (D := D) (ys := ys) (n := ys.length) ?hm hy2 ?_)
        case hm => k_mem
        cases hcn : held.contains j with
        | false =>
          rw [Bool.not_false]
          k_steps
          unfold Hold
          exact ⟨by first | rfl | (show true = (dprAt ls j k && !(held.contains j)); rw [hb, hcn]; rfl), _, _, rfl, kF, fun p hp => kN p (.tail _ hp)⟩
        | true =>
          rw [Bool.not_true]
          k_steps
          unfold Hold
          exact ⟨by first | rfl | (show false = (dprAt ls j k && !(held.contains j)); rw [hb, hcn]; rfl), _, _, rfl, kF, fun p hp => kN p (.tail _ hp)⟩
    case el2 =>
      rintro k v j t2 J oJ I oI C oC D' m₂ ys2 h6 tk6 E' hk ⟨t3, rfl⟩ hj hC hx hxj F6 N6
      clear gF gN
      walk1
      exact ⟨[], _, _, rfl, F6, N6, rfl, List.forall_mem_nil _⟩
    case fin2 =>
      intro D' h6 tk6 ys2 F6 N6 hhit hl2 hlt
      clear gF gN
      have hcl : (held.any fun k => (List.range 5).any fun j => dprAt ls j k && !(held.contains j)) = decide (ys2 ≠ []) := by
        rw [Bool.eq_iff_iff, List.any_eq_true, decide_eq_true_iff, hhit]
        unfold Hit
        constructor
        · rintro ⟨k, hk, h2⟩
          obtain ⟨j, hj, h3⟩ := List.any_eq_true.mp h2
          exact ⟨k, hk, j, List.mem_range.mp hj, h3⟩
        · rintro ⟨k, hk, j, hj, h3⟩
          exact ⟨k, hk, List.any_eq_true.mpr ⟨j, List.mem_range.mpr hj, h3⟩⟩
      k_steps
      unfold Hold
      (rename Fr g' _ _ _ => kF); (rename News g' _ _ _ => kN)
      k_dflt (refine' wpAny_truthy_list (items := ys2.toArray) ⟨_, (kN (D', LCg.lst ys2) (by k_mem)).1, rfl, _, rfl⟩ ?hz ?_)
      case hz => (rw [List.size_toArray]; omega)
      by_cases hye : ys2 = []
      · subst hye
        rw [ite_cond_eq_true _ _ (eq_true (by rfl))]
        have hcl2 : (held.any fun k => (List.range 5).any fun j => dprAt ls j k && !(held.contains j)) = false := by rw [hcl]; rfl
        have hkn := hknown hcl2
        replace kN := news_re kN (b := (D, LCg.lst ys) :: (L' + 1 + 1 + 1 + 1, ofig) :: (L' + 1 + 1 + 1 + 1 + 1, oh2) :: (L' + 1 + 1 + 1, odue) :: (dd, od) :: (L' + 1 + 1, odeep) :: (L' + 1, ocol) :: (D2, LCg.lst rv) :: tl) (fun p hp => .tail _ hp)
        k_steps
        unfold Hold
        have gF2 := kF
        k_dflt (refine' lcCA (α := Nat) gF2 rfl ?hsw ?hyy ?hpp ?hclos ?hkind ?hnames ?hcf ?hpc ?hx ?_)
        case hsw => with_unfolding_all rfl
        case hyy => rfl
        case hpp => rfl
        case hclos => with_unfolding_all rfl
        case hkind => rfl
        case hnames => decide
        case hcf => intro n; rfl
        case hpc => intro h; rfl
        case hx => with_unfolding_all rfl
        k_steps
        unfold Hold
        refine ⟨_, D, ys, ys.length, held, IsN, fun k => held.all fun j => j == k || dprAt ls j k, fun k y ex => IsN k y ∧ ex = [], rfl, rfl, kF, kN, .head _, (by rw [sizeLine_eq]; omega), hy2, ?tst3, ?el3, ?fin3⟩
        case tst3 =>
          rintro k v I oI C oC c oc D3 ys3 exs3 h7 tk7 E' hk ⟨t3, rfl⟩ hoc hown F7 N7
          have hx0 := hown.none (fun _ _ _ h => h.2)
          subst hx0
          clear kF kN gF2
          dsimp only [List.nil_append] at N7
          refine wpAny_tests_one ?_
          have hk5 := hh5 k hk
          k_steps
          unfold Hold
          k_dflt (refine' lcU (α := Nat) F7 ?hclos ?hcell ?hkind ?hnames ?hx ?_)
          case hclos => with_unfolding_all rfl
          case hcell => decide
          case hkind => rfl
          case hnames => decide
          case hx => rfl
          k_steps
          unfold Hold
          refine ⟨_, held, IsN, fun j y ex => y = Value.bool (j == k || dprAt ls j k) ∧ ex = [], rfl, F7, N7, .lst (k := ys.length) (vs := ys) (by k_mem) (by rw [sizeLine_eq]; omega) hy2, ?el4, ?fin4⟩
          case el4 =>
            rintro j v I2 oI2 C2 oC2 D4 m₂ ys4 exs4 h8 tk8 E2 hj ⟨t4, rfl⟩ hC2 hx2 hown4 F8 N8
            have hx0 := hown4.none (fun _ _ _ h => h.2)
            subst hx0
            have hj5 := hh5 j hj
            obtain ⟨Dj, row, hr1, hr2, hr3⟩ := row_at2 hls hrows hj5
            have hr4 := hr3 k hk5
            clear F7 N7
            dsimp only [List.nil_append] at N8
            have N9 := news_cons2 N8 (show (Dj, LCg.lst row) ∈ _ by repeat (first | exact hr2 | refine List.mem_cons_of_mem _ ?_))
            clear N8 hr2
            k_steps; repeat' (first | (refine unhold ?_; (first | ((with_reducible show wpAny _ _ (subscriptTail _ _ (Value.ref _) (Value.int _ _)) _ _ _); k_dflt (refine' list_itemK ?Nzq ?mzq ?kzq ?izq ?_; (case Nzq => k_asm); (case mzq => k_mem); (case kzq => omega); (case izq => assumption))) | ((with_reducible show wpAny _ _ (subscriptTail _ _ (Value.str _ _) (Value.int _ _)) _ _ _); k_dflt (refine' abcde_item ?kzq ?_; (case kzq => omega)); intro t' tk'; (try (revert t' tk'; intros))) | ((with_reducible show wpAny _ _ (subscriptTail _ _ (Value.ref _) (Value.str _ _)) _ _ _); k_dflt (refine kda_item (knd := PySem.strKind _ _) (by k_asm) (by k_mem) (by k_asm) (strKind_is _ _ _ _) (by assumption) ?_))); (try k_steps)))
            all_goals unfold Hold
            all_goals (rename Fr g' _ _ _ => kF)
            all_goals (rename News g' _ _ _ => kN)
            all_goals refine ⟨[], _, _, rfl, kF, fun p hp => kN p (.tail _ hp), ⟨?_, rfl⟩, List.forall_mem_nil _⟩
            · have e : j = k := Int.ofNat_inj.mp (by assumption)
              subst e
              simp
            · have e : j ≠ k := fun e => absurd (congrArg (fun n : Nat => (n : Int)) e) (by assumption)
              rw [show (j == k) = false by simpa using e, Bool.false_or]
          case fin4 =>
            intro D4 h8 tk8 ys4 exs4 F8 N8 hown4 hy4 hD4
            have hx0 := hown4.none (fun _ _ _ h => h.2)
            subst hx0
            clear F7 N7
            dsimp only [List.nil_append] at N8
            k_steps
            unfold Hold
            (rename Fr g' _ _ _ => kF); (rename News g' _ _ _ => kN)
            have hb4 := paired_bools (V := VIn (fun j y ex => y = Value.bool (j == k || dprAt ls j k) ∧ ex = []) []) (f := fun j : Nat => (j == k || dprAt ls j k)) (fun _ _ ⟨_, h, _⟩ => h.1) hy4
            k_dflt (refine' LSm.all_bools kF kN (by rfl) ⟨_, (kN (D4, LCg.lst ys4) (by k_mem)).1, rfl, _, rfl⟩ hb4 ?_)
            clear kF kN; (try clear F8); (try clear N8)
            intro h9 tk9 F9 N9
            k_steps
            unfold Hold
            (rename Fr g' _ _ _ => kF); (rename News g' _ _ _ => kN)
            refine ⟨by rw [List.all_map]; rfl, _, _, rfl, kF, fun p hp => kN p (.tail _ hp)⟩
        case el3 =>
          rintro k v I oI C oC c oc D3 ys3 exs3 h7 tk7 E' hk ⟨t3, rfl⟩ hoc hown F7 N7 hpz
          have hx0 := hown.none (fun _ _ _ h => h.2)
          subst hx0
          clear kF kN gF2
          dsimp only [List.nil_append] at N7
          walk1
          exact ⟨[], _, _, rfl, F7, N7, ⟨⟨_, rfl⟩, rfl⟩, List.forall_mem_nil _⟩
        case fin3 =>
          intro D3 h7 tk7 ys3 exs3 F7 N7 hown3 hy3 hD3
          have hx0 := hown3.none (fun _ _ _ h => h.2)
          subst hx0
          clear kF kN gF2
          dsimp only [List.nil_append] at N7
          have g14 : @Ne Nat (L' + 1 + 1 + 1 + 1) D3 := hD3 (L' + 1 + 1 + 1 + 1, ofig) (.tail _ (.head _))
          have g15 : @Ne Nat (L' + 1 + 1 + 1 + 1 + 1) D3 := hD3 (L' + 1 + 1 + 1 + 1 + 1, oh2) (.tail _ (.tail _ (.head _)))
          have g1d : @Ne Nat dd D3 := hD3 (dd, od) (.tail _ (.tail _ (.tail _ (.tail _ (.head _)))))
          have g1t : ∀ p ∈ tl, p.1 ≠ D3 := fun p hp => hD3 p (.tail _ (.tail _ (.tail _ (.tail _ (.tail _ (.tail _ (.tail _ (.tail _ hp))))))))
          have hy3' : Paired IsN (held.filter fun k => held.all fun j => j == k || dprAt ls j k) ys3 := Paired.mono' (fun k v ⟨ex, h1, h2⟩ => h1.1) hy3
          clear hy3 hD3
          k_steps
          unfold Hold
          (rename Fr g' _ _ _ => kF); (rename News g' _ _ _ => kN)
          have gF2 := kF
          k_dflt (refine' lcCA (α := Nat) (ifs := []) gF2 rfl ?hsw ?hyy ?hpp ?hclos ?hkind ?hnames ?hcf ?hpc ?hx ?_)
          case hsw => with_unfolding_all rfl
          case hyy => rfl
          case hpp => rfl
          case hclos => with_unfolding_all rfl
          case hkind => rfl
          case hnames => decide
          case hcf => intro n; rfl
          case hpc => intro h; rfl
          case hx => with_unfolding_all rfl
          k_steps
          unfold Hold
          clear gF2
          refine ⟨_, D, ys, ys.length, held, IsN, fun k => true, fun k y ex => (∃ t, y = Value.str (wdS (held.filter fun j => j != k && !(dprAt ls k j))) t) ∧ ex = [], rfl, rfl, kF, kN, .tail _ (.head _), (by rw [sizeLine_eq]; omega), hy2, ?tst5, ?el5, ?fin5⟩
          case tst5 =>
            rintro k v I oI C oC c oc D4 ys4 exs4 h8 tk8 E' hk ⟨t3, rfl⟩ hoc hown F8 N8
            exact wpAny_tests_nil ⟨rfl, _, _, rfl, F8, N8⟩
          case el5 =>
            rintro k v I oI C oC c oc D4 ys4 exs4 h8 tk8 E' hk ⟨t3, rfl⟩ hoc hown F8 N8 -
            have hx0 := hown.none (fun _ _ _ h => h.2)
            subst hx0
            clear kF kN
            dsimp only [List.nil_append] at N8
            have hk5 := hh5 k hk
            obtain ⟨Dk, row, hr1, hr2, hr3⟩ := row_at2 hls hrows hk5
            have N9 := news_cons2 N8 (show (Dk, LCg.lst row) ∈ _ by repeat (first | exact hr2 | refine List.mem_cons_of_mem _ ?_))
            clear N8 hr2
            k_steps
            unfold Hold
            k_dflt (refine' lcT (α := Nat) F8 ?hclos ?hcell ?hkind ?hnames ?hx ?_)
            case hclos => with_unfolding_all rfl
            case hcell => decide
            case hkind => rfl
            case hnames => decide
            case hx => rfl
            k_steps
            unfold Hold
            refine ⟨_, held, IsN, fun j => j != k && !(dprAt ls k j), fun j y ex => (∃ t, y = Value.str (sgn (97 + j)) t) ∧ ex = [], rfl, F8, N9, .lst (k := ys.length) (vs := ys) (by k_mem) (by rw [sizeLine_eq]; omega) hy2, ?tst6, ?el6, ?fin6⟩
            case tst6 =>
              rintro j v I2 oI2 C2 oC2 D5 m₂ ys5 exs5 h9 tk9 E2 hj ⟨t4, rfl⟩ hC2 hx2 hown5 F10 N10
              have hx0 := hown5.none (fun _ _ _ h => h.2)
              subst hx0
              have hj5 := hh5 j hj
              have hr4 := hr3 j hj5
              clear F8 N9
              dsimp only [List.nil_append] at N10
              cases hb : dprAt ls k j with
              | false =>
                rw [hb] at hr4
                k_steps; repeat' (first | (refine unhold ?_; (first | ((with_reducible show wpAny _ _ (subscriptTail _ _ (Value.ref _) (Value.int _ _)) _ _ _); k_dflt (refine' list_itemK ?Nzq ?mzq ?kzq ?izq ?_; (case Nzq => k_asm); (case mzq => k_mem); (case kzq => omega); (case izq => assumption))) | ((with_reducible show wpAny _ _ (subscriptTail _ _ (Value.str _ _) (Value.int _ _)) _ _ _); k_dflt (refine' abcde_item ?kzq ?_; (case kzq => omega)); intro t' tk'; (try (revert t' tk'; intros))) | ((with_reducible show wpAny _ _ (subscriptTail _ _ (Value.ref _) (Value.str _ _)) _ _ _); k_dflt (refine kda_item (knd := PySem.strKind _ _) (by k_asm) (by k_mem) (by k_asm) (strKind_is _ _ _ _) (by assumption) ?_))); (try k_steps)))
                all_goals unfold Hold
                all_goals (rename Fr g' _ _ _ => kF)
                all_goals (rename News g' _ _ _ => kN)
                all_goals refine ⟨?_, _, _, rfl, kF, kN⟩
                all_goals (try show _ = (j != k && !(dprAt ls k j)))
                all_goals (try rw [hb])
                all_goals first | (have e : j ≠ k := by omega
                                   simp [e]) | (have e : j = k := by omega
                                                simp [e])
              | true =>
                rw [hb] at hr4
                k_steps; repeat' (first | (refine unhold ?_; (first | ((with_reducible show wpAny _ _ (subscriptTail _ _ (Value.ref _) (Value.int _ _)) _ _ _); k_dflt (refine' list_itemK ?Nzq ?mzq ?kzq ?izq ?_; (case Nzq => k_asm); (case mzq => k_mem); (case kzq => omega); (case izq => assumption))) | ((with_reducible show wpAny _ _ (subscriptTail _ _ (Value.str _ _) (Value.int _ _)) _ _ _); k_dflt (refine' abcde_item ?kzq ?_; (case kzq => omega)); intro t' tk'; (try (revert t' tk'; intros))) | ((with_reducible show wpAny _ _ (subscriptTail _ _ (Value.ref _) (Value.str _ _)) _ _ _); k_dflt (refine kda_item (knd := PySem.strKind _ _) (by k_asm) (by k_mem) (by k_asm) (strKind_is _ _ _ _) (by assumption) ?_))); (try k_steps)))
                all_goals unfold Hold
                all_goals (rename Fr g' _ _ _ => kF)
                all_goals (rename News g' _ _ _ => kN)
                all_goals refine ⟨?_, _, _, rfl, kF, kN⟩
                all_goals (try show _ = (j != k && !(dprAt ls k j)))
                all_goals (try rw [hb])
                all_goals first | (have e : j ≠ k := by omega
                                   simp [e]) | (have e : j = k := by omega
                                                simp [e])
            case el6 =>
              rintro j v I2 oI2 C2 oC2 D5 m₂ ys5 exs5 h9 tk9 E2 hj ⟨t4, rfl⟩ hC2 hx2 hown5 F10 N10 hpz
              have hj5 := hh5 j hj
              have hx0 := hown5.none (fun _ _ _ h => h.2)
              subst hx0
              clear F8 N9
              dsimp only [List.nil_append] at N10
              k_steps; repeat' (first | (refine unhold ?_; (first | ((with_reducible show wpAny _ _ (subscriptTail _ _ (Value.ref _) (Value.int _ _)) _ _ _); k_dflt (refine' list_itemK ?Nzq ?mzq ?kzq ?izq ?_; (case Nzq => k_asm); (case mzq => k_mem); (case kzq => omega); (case izq => assumption))) | ((with_reducible show wpAny _ _ (subscriptTail _ _ (Value.str _ _) (Value.int _ _)) _ _ _); k_dflt (refine' abcde_item ?kzq ?_; (case kzq => omega)); intro t' tk'; (try (revert t' tk'; intros))) | ((with_reducible show wpAny _ _ (subscriptTail _ _ (Value.ref _) (Value.str _ _)) _ _ _); k_dflt (refine kda_item (knd := PySem.strKind _ _) (by k_asm) (by k_mem) (by k_asm) (strKind_is _ _ _ _) (by assumption) ?_))); (try k_steps)))
              unfold Hold
              (rename Fr g' _ _ _ => kF); (rename News g' _ _ _ => kN)
              exact ⟨[], _, _, rfl, kF, kN, ⟨⟨_, rfl⟩, rfl⟩, List.forall_mem_nil _⟩
            case fin6 =>
              intro D5 h9 tk9 ys5 exs5 F10 N10 hown5 hy5 hD5
              have hx0 := hown5.none (fun _ _ _ h => h.2)
              subst hx0
              clear F8 N9
              dsimp only [List.nil_append] at N10
              k_steps
              unfold Hold
              (rename Fr g' _ _ _ => kF); (rename News g' _ _ _ => kN)
              have hs5 := paired_strs (fun _ _ _ h => h.1) hy5
              have hfl : (held.filter fun j => j != k && !(dprAt ls k j)).length ≤ 5 := Nat.le_trans (List.length_filter_le _ _) hhl
              k_dflt (refine' join_listW (items := ys5.toArray) ⟨_, (kN (D5, LCg.lst ys5) (by k_mem)).1, rfl, _, rfl⟩ hs5 (by decide) (wd_weight _ hfl) ?_)
              rw [join_signs]
              intro tj kj
              k_steps
              unfold Hold
              exact ⟨[], _, _, rfl, kF, fun p hp => kN p (.tail _ (.tail _ hp)), ⟨⟨_, rfl⟩, rfl⟩, List.forall_mem_nil _⟩
          case fin5 =>
            intro D4 h8 tk8 ys4 exs4 F8 N8 hown4 hy4 hD4
            have hx0 := hown4.none (fun _ _ _ h => h.2)
            subst hx0
            clear kF kN
            dsimp only [List.nil_append] at N8
            have hl4 : Paired (fun w v => ∃ t, v = Value.str (wdS w) t) (held.map fun k => held.filter fun j => j != k && !(dprAt ls k j)) ys4 := by
              have e : held.filter (fun _ => true) = held := by simp
              rw [e] at hy4
              exact paired_map (Paired.mono' (fun k v ⟨ex, h1, h2⟩ => h1.1) hy4)
            have h4d : @Ne Nat dd D4 := hD4 (dd, od) (by k_mem)
            have h4t : ∀ p ∈ tl, p.1 ≠ D4 := fun p hp => hD4 p (by repeat (first | exact hp | refine List.mem_cons_of_mem _ ?_))
            have hyl4 : ys4.length ≤ 5 := by rw [← paired_len hl4, List.length_map]; exact hhl
            k_steps
            unfold Hold
            (rename Fr g' _ _ _ => kF); (rename News g' _ _ _ => kN)
            rename_i ln hn9 q3
            k_dflt (refine' ke_ne_ints (ns := (held.filter fun k => held.all fun j => j == k || dprAt ls j k).map fun k : Nat => (k : Int)) (ms := []) (xs := ys3) (ys := []) ⟨_, (kN (D3, LCg.lst ys3) (by k_mem)).1, rfl, _, rfl⟩ ⟨_, (kN (ln, W.listOf #[] 0) (by k_mem)).1, rfl, _, rfl⟩ (ints_of hy3') .nil ?hu ?_)
            case hu => ke_room
            obtain ⟨lefts, hlefts⟩ : ∃ lefts, lefts = held.map fun k => held.filter fun j => j != k && !(dprAt ls k j) := ⟨_, rfl⟩
            rw [← hlefts] at hl4
            by_cases htop : (held.filter fun k => held.all fun j => j == k || dprAt ls j k) = []
            · rw [show (!decide (((held.filter fun k => held.all fun j => j == k || dprAt ls j k).map fun k : Nat => (k : Int)) = [])) = false by rw [htop]; rfl]
              have hX : ((held.filter fun k => held.all fun j => j == k || dprAt ls j k) != [] || !((held.map fun k => held.filter fun j => j != k && !(dprAt ls k j)).all fun l => Plain.look l t == some true)) = (!((lefts.map fun w => (Plain.look w t == some true)).all id)) := by
                rw [htop, ← hlefts, List.all_map]
                rfl
              k_steps
              unfold Hold
              k_dflt (refine' lcU (α := Wd) kF ?hclos ?hcell ?hkind ?hnames ?hx ?_)
              case hclos => with_unfolding_all rfl
              case hcell => decide
              case hkind => rfl
              case hnames => decide
              case hx => rfl
              k_steps
              unfold Hold
              refine ⟨_, lefts, fun w v => ∃ t, v = Value.str (wdS w) t, fun w y ex => y = Value.bool (Plain.look w t == some true) ∧ ex = [], rfl, kF, kN, .lst (k := ys4.length) (vs := ys4) (by k_mem) (by rw [sizeLine_eq]; omega) hl4, ?el7, ?fin7⟩
              case el7 =>
                rintro u v I2 oI2 C2 oC2 D6 m₂ ys6 exs6 h9 tk9 E2 hu ⟨t4, rfl⟩ hC2 hx2 hown6 F10 N10
                have hx0 := hown6.none (fun _ _ _ h => h.2)
                subst hx0
                clear kF kN
                dsimp only [List.nil_append] at N10
                have hut : u ∈ t.map (·.1) := by
                  rw [hlefts] at hu
                  obtain ⟨k, hk, rfl⟩ := List.mem_map.mp hu
                  exact hkn k hk
                have hval := due_look hnd hut
                k_steps; repeat' (first | (refine unhold ?_; (first | ((with_reducible show wpAny _ _ (subscriptTail _ _ (Value.ref _) (Value.int _ _)) _ _ _); k_dflt (refine' list_itemK ?Nzq ?mzq ?kzq ?izq ?_; (case Nzq => k_asm); (case mzq => k_mem); (case kzq => omega); (case izq => assumption))) | ((with_reducible show wpAny _ _ (subscriptTail _ _ (Value.str _ _) (Value.int _ _)) _ _ _); k_dflt (refine' abcde_item ?kzq ?_; (case kzq => omega)); intro t' tk'; (try (revert t' tk'; intros))) | ((with_reducible show wpAny _ _ (subscriptTail _ _ (Value.ref _) (Value.str _ _)) _ _ _); k_dflt (refine kda_item (knd := PySem.strKind _ _) (by k_asm) (by k_mem) (by k_asm) (strKind_is _ _ _ _) (by assumption) ?_))); (try k_steps)))
                unfold Hold
                (rename Fr g' _ _ _ => kF); (rename News g' _ _ _ => kN)
                exact ⟨[], _, _, rfl, kF, kN, ⟨rfl, rfl⟩, List.forall_mem_nil _⟩
              case fin7 =>
                intro D6 h9 tk9 ys6 exs6 F10 N10 hown6 hy6 hD6
                have hx0 := hown6.none (fun _ _ _ h => h.2)
                subst hx0
                clear kF kN
                dsimp only [List.nil_append] at N10 hD6
                have hdd6 : @Ne Nat dd D6 := hD6 (dd, od) (by k_mem)
                k_steps
                unfold Hold
                (rename Fr g' _ _ _ => kF); (rename News g' _ _ _ => kN)
                have hb6 := paired_bools (V := VIn (fun w y ex => y = Value.bool (Plain.look w t == some true) ∧ ex = []) []) (f := fun w : Wd => (Plain.look w t == some true)) (fun _ _ ⟨_, h, _⟩ => h.1) hy6
                k_dflt (refine' LSm.all_bools kF kN (by rfl) ⟨_, (kN (D6, LCg.lst ys6) (by k_mem)).1, rfl, _, rfl⟩ hb6 ?_)
                clear kF kN; (try clear F10); (try clear N10)
                intro h11 tk11 F11 N11
                k_steps
                unfold Hold
                (rename Fr g' _ _ _ => kF); (rename News g' _ _ _ => kN)
                k_dflt (refine' lcU (α := Nat) kF ?hclos ?hcell ?hkind ?hnames ?hx ?_)
                case hclos => with_unfolding_all rfl
                case hcell => decide
                case hkind => rfl
                case hnames => decide
                case hx => rfl
                k_steps
                unfold Hold
                refine ⟨_, held, IsN, fun j y ex => (∃ t, y = Value.str (sgn (97 + j)) t) ∧ ex = [], rfl, kF, kN, .lst (k := ys.length) (vs := ys) (by k_mem) (by rw [sizeLine_eq]; omega) hy2, ?el9, ?fin9⟩
                case el9 =>
                  rintro j v I2 oI2 C2 oC2 D5 m₂ ys5 exs5 h9 tk9 E2 hj ⟨t4, rfl⟩ hC2 hx2 hown5 F10 N10
                  have hj5 := hh5 j hj
                  have hx0 := hown5.none (fun _ _ _ h => h.2)
                  subst hx0
                  clear kF kN
                  dsimp only [List.nil_append] at N10
                  k_steps; repeat' (first | (refine unhold ?_; (first | ((with_reducible show wpAny _ _ (subscriptTail _ _ (Value.ref _) (Value.int _ _)) _ _ _); k_dflt (refine' list_itemK ?Nzq ?mzq ?kzq ?izq ?_; (case Nzq => k_asm); (case mzq => k_mem); (case kzq => omega); (case izq => assumption))) | ((with_reducible show wpAny _ _ (subscriptTail _ _ (Value.str _ _) (Value.int _ _)) _ _ _); k_dflt (refine' abcde_item ?kzq ?_; (case kzq => omega)); intro t' tk'; (try (revert t' tk'; intros))) | ((with_reducible show wpAny _ _ (subscriptTail _ _ (Value.ref _) (Value.str _ _)) _ _ _); k_dflt (refine kda_item (knd := PySem.strKind _ _) (by k_asm) (by k_mem) (by k_asm) (strKind_is _ _ _ _) (by assumption) ?_))); (try k_steps)))
                  unfold Hold
                  (rename Fr g' _ _ _ => kF); (rename News g' _ _ _ => kN)
                  exact ⟨[], _, _, rfl, kF, kN, ⟨⟨_, rfl⟩, rfl⟩, List.forall_mem_nil _⟩
                case fin9 =>
                  intro D5 h9 tk9 ys5 exs5 F10 N10 hown5 hy5 hD5
                  have hx0 := hown5.none (fun _ _ _ h => h.2)
                  subst hx0
                  clear kF kN
                  dsimp only [List.nil_append] at N10 hD5
                  have hdd5 : @Ne Nat dd D5 := hD5 (dd, od) (by k_mem)
                  k_steps
                  unfold Hold
                  (rename Fr g' _ _ _ => kF); (rename News g' _ _ _ => kN)
                  have hs5 := paired_strs (fun _ _ _ h => h.1) hy5
                  k_dflt (refine' join_listW (items := ys5.toArray) ⟨_, (kN (D5, LCg.lst ys5) (by k_mem)).1, rfl, _, rfl⟩ hs5 (by decide) (wd_weight _ hhl) ?_)
                  rw [join_signs]
                  intro tj kj
                  k_steps
                  unfold Hold
                  (rename Fr g' _ _ _ => kF); (rename News g' _ _ _ => kN)
                  k_dflt (refine' kda_set (knd := PySem.strKind _ _) (k := wdS held) kF kN ?U hod (strKind_is _ _ _ _) ?z ?_)
                  case U => k_updF
                  case z => (rw [sizeLine_eq, List.length_map]; omega)
                  clear kF kN
                  intro h10 od2 F11 N11 hod2
                  k_steps
                  (rename Fr g' _ _ _ => kF); (rename News g' _ _ _ => kN)
                  refine h _ _ _ oh2 _ od2 kF (fun z z1 z2 => by simp only [if_neg z1, if_neg z2]) dh2 (news_re kN fun p hp => .tail _ (.tail _ (.tail _ (.tail _ (.tail _ (.tail _ hp)))))) ?_
                  rw [stored_none' (by rw [due_fst]; intro hm; obtain ⟨a, ha, e⟩ := List.mem_map.mp hm; exact hnew (wdS_inj e ▸ ha))] at hod2
                  have hfin : dueK (dueStep (dprAt ls) t i) = dueK t ++ [(wdS held, Value.bool (!((lefts.map fun w => (Plain.look w t == some true)).all id)))] := by
                    unfold dueStep
                    dsimp only
                    rw [hH, if_neg (by rw [hcl2]; decide), show ∀ X, dueK (t ++ [(held, X)]) = dueK t ++ [(wdS held, Value.bool X)] from fun X => by simp [dueK], hX]
                  rw [hfin]
                  exact hod2
            · rw [show (!decide (((held.filter fun k => held.all fun j => j == k || dprAt ls j k).map fun k : Nat => (k : Int)) = [])) = true by simpa using htop]
              have hX : ((held.filter fun k => held.all fun j => j == k || dprAt ls j k) != [] || !((held.map fun k => held.filter fun j => j != k && !(dprAt ls k j)).all fun l => Plain.look l t == some true)) = true := by
                rw [show ((held.filter fun k => held.all fun j => j == k || dprAt ls j k) != []) = true by simpa using htop, Bool.true_or]
              k_steps
              unfold Hold
              k_dflt (refine' lcU (α := Nat) kF ?hclos ?hcell ?hkind ?hnames ?hx ?_)
              case hclos => with_unfolding_all rfl
              case hcell => decide
              case hkind => rfl
              case hnames => decide
              case hx => rfl
              k_steps
              unfold Hold
              refine ⟨_, held, IsN, fun j y ex => (∃ t, y = Value.str (sgn (97 + j)) t) ∧ ex = [], rfl, kF, kN, .lst (k := ys.length) (vs := ys) (by k_mem) (by rw [sizeLine_eq]; omega) hy2, ?el9, ?fin9⟩
              case el9 =>
                rintro j v I2 oI2 C2 oC2 D5 m₂ ys5 exs5 h9 tk9 E2 hj ⟨t4, rfl⟩ hC2 hx2 hown5 F10 N10
                have hj5 := hh5 j hj
                have hx0 := hown5.none (fun _ _ _ h => h.2)
                subst hx0
                clear kF kN
                dsimp only [List.nil_append] at N10
                k_steps; repeat' (first | (refine unhold ?_; (first | ((with_reducible show wpAny _ _ (subscriptTail _ _ (Value.ref _) (Value.int _ _)) _ _ _); k_dflt (refine' list_itemK ?Nzq ?mzq ?kzq ?izq ?_; (case Nzq => k_asm); (case mzq => k_mem); (case kzq => omega); (case izq => assumption))) | ((with_reducible show wpAny _ _ (subscriptTail _ _ (Value.str _ _) (Value.int _ _)) _ _ _); k_dflt (refine' abcde_item ?kzq ?_; (case kzq => omega)); intro t' tk'; (try (revert t' tk'; intros))) | ((with_reducible show wpAny _ _ (subscriptTail _ _ (Value.ref _) (Value.str _ _)) _ _ _); k_dflt (refine kda_item (knd := PySem.strKind _ _) (by k_asm) (by k_mem) (by k_asm) (strKind_is _ _ _ _) (by assumption) ?_))); (try k_steps)))
                unfold Hold
                (rename Fr g' _ _ _ => kF); (rename News g' _ _ _ => kN)
                exact ⟨[], _, _, rfl, kF, kN, ⟨⟨_, rfl⟩, rfl⟩, List.forall_mem_nil _⟩
              case fin9 =>
                intro D5 h9 tk9 ys5 exs5 F10 N10 hown5 hy5 hD5
                have hx0 := hown5.none (fun _ _ _ h => h.2)
                subst hx0
                clear kF kN
                dsimp only [List.nil_append] at N10 hD5
                have hdd5 : @Ne Nat dd D5 := hD5 (dd, od) (by k_mem)
                k_steps
                unfold Hold
                (rename Fr g' _ _ _ => kF); (rename News g' _ _ _ => kN)
                have hs5 := paired_strs (fun _ _ _ h => h.1) hy5
                k_dflt (refine' join_listW (items := ys5.toArray) ⟨_, (kN (D5, LCg.lst ys5) (by k_mem)).1, rfl, _, rfl⟩ hs5 (by decide) (wd_weight _ hhl) ?_)
                rw [join_signs]
                intro tj kj
                k_steps
                unfold Hold
                (rename Fr g' _ _ _ => kF); (rename News g' _ _ _ => kN)
                k_dflt (refine' kda_set (knd := PySem.strKind _ _) (k := wdS held) kF kN ?U hod (strKind_is _ _ _ _) ?z ?_)
                case U => k_updF
                case z => (rw [sizeLine_eq, List.length_map]; omega)
                clear kF kN
                intro h10 od2 F11 N11 hod2
                k_steps
                (rename Fr g' _ _ _ => kF); (rename News g' _ _ _ => kN)
                refine h _ _ _ oh2 _ od2 kF (fun z z1 z2 => by simp only [if_neg z1, if_neg z2]) dh2 (news_re kN fun p hp => .tail _ (.tail _ (.tail _ (.tail _ (.tail _ hp))))) ?_
                rw [stored_none' (by rw [due_fst]; intro hm; obtain ⟨a, ha, e⟩ := List.mem_map.mp hm; exact hnew (wdS_inj e ▸ ha))] at hod2
                have hfin : dueK (dueStep (dprAt ls) t i) = dueK t ++ [(wdS held, Value.bool true)] := by
                  unfold dueStep
                  dsimp only
                  rw [hH, if_neg (by rw [hcl2]; decide), show ∀ X, dueK (t ++ [(held, X)]) = dueK t ++ [(wdS held, Value.bool X)] from fun X => by simp [dueK], hX]
                rw [hfin]
                exact hod2
      · rw [if_neg (by cases ys2 with | nil => exact absurd rfl hye | cons a r => simp)]
        k_steps
        refine h _ _ _ oh2 _ od kF (fun z _ _ => rfl) dh2 (news_re kN fun p hp => .tail _ (.tail _ hp)) ?_
        unfold dueStep
        dsimp only
        rw [hH, if_pos (by rw [hcl]; exact decide_eq_true hye)]
        exact hod
theorem all_cut : ∀ w p loose mean mg mb A₀ base g' L' m cn cs ca L ccd cl outer gd s Q E name params pre rest rr fore ftgt fiter fpos dV kV doc pm ct oc an od0 osl tl dd D2 od oh ofig odue odeep ocol rv ls t i tf hv, Pcut w p loose mean mg mb A₀ base g' L' m cn cs ca L ccd cl outer gd s Q E name params pre rest rr fore ftgt fiter fpos dV kV doc pm ct oc an od0 osl tl dd D2 od oh ofig odue odeep ocol rv ls t i tf hv := by
  have h : Pcut w p loose mean mg mb A₀ base g' L' m cn cs ca L ccd cl outer gd s Q E name params pre rest rr fore ftgt fiter fpos dV kV doc pm ct oc an od0 osl tl dd D2 od oh ofig odue odeep ocol rv ls t i tf hv := at_cut
  delta w p loose mean mg mb A₀ base g' L' m cn cs ca L ccd cl outer gd s Q E name params pre rest rr fore ftgt fiter fpos dV kV doc pm ct oc an od0 osl tl dd D2 od oh ofig odue odeep ocol rv ls t i tf hv at h
  exact fun w p loose mean mg mb A₀ base g' L' m cn cs ca L ccd cl outer gd s Q E name params pre rest rr fore ftgt fiter fpos dV kV doc pm ct oc an od0 osl tl dd D2 od oh ofig odue odeep ocol rv ls t i tf hv => Classical.choose_spec ex_cut h ((w, p, loose, mean, mg, mb, A₀, base), (g', L', m, cn, cs, ca, L, ccd), (cl, outer, gd, s, Q, E, name, params), (pre, rest, rr, fore, ftgt, fiter, fpos, dV), (kV, doc, pm, ct, oc, an, od0, osl), (tl, dd, D2, od, oh, ofig, odue, odeep), (ocol, rv, ls, t, i, tf, hv))
end K_due_turn
theorem due_turn : type_of% (@Subtype.property _ _ K_due_turn.cut (no_implicit_lambda% K_due_turn.all_cut)) := no_implicit_lambda% (@Subtype.property _ _ K_due_turn.cut (no_implicit_lambda% K_due_turn.all_cut))
end Mine
end
section
open PySem PySem.W PyProof.Rows PySem.Spec PySem.Calls PyProof.Rows.LSm
set_option maxRecDepth 100000
namespace Mine
open Plain (Wd)
theorem dpr_trans {a b c : List Nat} (h1 : dpr a b = true) (h2 : dpr b c = true) : dpr a c = true := by
  unfold dpr Plain.cols at *
  simp only [List.zip_cons_cons, List.zip_nil_right, List.all_cons, List.all_nil, Bool.and_true, Bool.and_eq_true, decide_eq_true_eq] at *
  omega
theorem dprAt_trans (ls : List (List Nat)) (i j k : Nat) (h1 : dprAt ls i j = true) (h2 : dprAt ls j k = true) : dprAt ls i k = true := by
  unfold dprAt at *
  cases hi : ls[i]? <;> cases hj : ls[j]? <;> cases hk : ls[k]? <;> rw [hi, hj] at h1 <;> rw [hj, hk] at h2 <;> dsimp only at *
  · cases h1
  · cases h1
  · cases h1
  · cases h1
  · cases h1
  · cases h1
  · cases h2
  · exact dpr_trans h1 h2
theorem held_inj : ∀ a : Nat, a < 32 → ∀ b : Nat, b < 32 → Plain.heldOf a = Plain.heldOf b → a = b := by decide +kernel
theorem held_less : ∀ a : Nat, a < 32 → ∀ b : Nat, b < 32 → ((Plain.heldOf b).all fun x => (Plain.heldOf a).contains x) = true → Plain.heldOf b ≠ Plain.heldOf a → b < a := by decide +kernel
noncomputable def bitsN (p : Nat → Bool) : Nat := (p 0).toNat + 2 * (p 1).toNat + 4 * (p 2).toNat + 8 * (p 3).toNat + 16 * (p 4).toNat
theorem held_bits : ∀ b0 b1 b2 b3 b4 : Bool, b0.toNat + 2 * b1.toNat + 4 * b2.toNat + 8 * b3.toNat + 16 * b4.toNat < 32 ∧ b0 = (b0.toNat + 2 * b1.toNat + 4 * b2.toNat + 8 * b3.toNat + 16 * b4.toNat).testBit 0 ∧ b1 = (b0.toNat + 2 * b1.toNat + 4 * b2.toNat + 8 * b3.toNat + 16 * b4.toNat).testBit 1 ∧ b2 = (b0.toNat + 2 * b1.toNat + 4 * b2.toNat + 8 * b3.toNat + 16 * b4.toNat).testBit 2 ∧ b3 = (b0.toNat + 2 * b1.toNat + 4 * b2.toNat + 8 * b3.toNat + 16 * b4.toNat).testBit 3 ∧ b4 = (b0.toNat + 2 * b1.toNat + 4 * b2.toNat + 8 * b3.toNat + 16 * b4.toNat).testBit 4 := by decide +kernel
theorem held_some (p : Nat → Bool) : ∃ f, f < 32 ∧ (List.range 5).filter p = Plain.heldOf f := by
  have h := held_bits (p 0) (p 1) (p 2) (p 3) (p 4)
  exact ⟨bitsN p, h.1, List.filter_congr fun k hk => five (P := fun k => p k = (bitsN p).testBit k) h.2.1 h.2.2.1 h.2.2.2.1 h.2.2.2.2.1 h.2.2.2.2.2 k (List.mem_range.mp hk)⟩
theorem held_zero : Plain.heldOf 0 = [] := by decide +kernel
noncomputable def opn (rel : Nat → Nat → Bool) (f : Nat) : Bool := (Plain.heldOf f).any fun k => (List.range 5).any fun j => rel j k && !((Plain.heldOf f).contains j)
noncomputable abbrev dueT (rel : Nat → Nat → Bool) (i : Nat) : List (Wd × Bool) := (List.range i).foldl (dueStep rel) [([], false)]
theorem dueT_succ (rel : Nat → Nat → Bool) (i : Nat) : dueT rel (i + 1) = dueStep rel (dueT rel i) i := by
  unfold dueT
  rw [List.range_succ, List.foldl_append]
  rfl
theorem dueStep_keys (rel : Nat → Nat → Bool) (t : List (Wd × Bool)) (i : Nat) : (dueStep rel t i).map (·.1) = if opn rel (i + 1) then t.map (·.1) else t.map (·.1) ++ [Plain.heldOf (i + 1)] := by
  unfold dueStep opn
  dsimp only
  split <;> simp
theorem dueT_keys (rel : Nat → Nat → Bool) (i : Nat) : (dueT rel i).map (·.1) = [] :: ((List.range i).filter fun f => !(opn rel (f + 1))).map fun f => Plain.heldOf (f + 1) := by
  induction i with
  | zero => rfl
  | succ i ih =>
    rw [dueT_succ, dueStep_keys, ih, List.range_succ, List.filter_append, List.map_append]
    cases h : opn rel (i + 1) <;> simp [h]
theorem dueT_len (rel : Nat → Nat → Bool) (i : Nat) : (dueT rel i).length ≤ i + 1 := by
  rw [← List.length_map (f := (·.1)), dueT_keys]
  have h := List.length_filter_le (fun f => !(opn rel (f + 1))) (List.range i)
  rw [List.length_range] at h
  simp only [List.length_cons, List.length_map]
  omega
theorem dueT_mem {rel : Nat → Nat → Bool} {i : Nat} {l : Wd} : l ∈ (dueT rel i).map (·.1) ↔ l = [] ∨ ∃ f, f < i ∧ opn rel (f + 1) = false ∧ Plain.heldOf (f + 1) = l := by
  rw [dueT_keys]
  simp [and_assoc]
theorem dueT_new {rel : Nat → Nat → Bool} {i : Nat} (hi : i < 31) : Plain.heldOf (i + 1) ∉ (dueT rel i).map (·.1) := by
  rw [dueT_mem]
  rintro (h | ⟨f, hf, _, h⟩)
  · rw [← held_zero] at h
    have := held_inj _ (by omega) _ (by omega) h
    omega
  · have := held_inj _ (by omega) _ (by omega) h
    omega
theorem dueT_nodup (rel : Nat → Nat → Bool) : ∀ {i : Nat}, i ≤ 31 → ((dueT rel i).map (·.1)).Nodup := by
  intro i
  induction i with
  | zero => intro _; simp [dueT]
  | succ i ih =>
    intro h
    have ih := ih (Nat.le_of_succ_le h)
    rw [dueT_succ, dueStep_keys]
    split
    · exact ih
    · rw [List.nodup_append]
      refine ⟨ih, by simp, fun a ha b hb e => ?_⟩
      rw [List.mem_singleton.mp hb] at e
      exact dueT_new h (e ▸ ha)
theorem dueT_known {rel : Nat → Nat → Bool} (htr : ∀ i j k, rel i j = true → rel j k = true → rel i k = true) {i : Nat} (hi : i < 31) (ho : ((Plain.heldOf (i + 1)).any fun k => (List.range 5).any fun j => rel j k && !((Plain.heldOf (i + 1)).contains j)) = false) :
    ∀ k ∈ Plain.heldOf (i + 1), ((Plain.heldOf (i + 1)).filter fun j => j != k && !(rel k j)) ∈ (dueT rel i).map (·.1) := by
  intro k hk
  generalize hl : ((Plain.heldOf (i + 1)).filter fun j => j != k && !(rel k j)) = l
  obtain ⟨f, hf, he⟩ : ∃ f, f < 32 ∧ l = Plain.heldOf f := by
    obtain ⟨f, h1, h2⟩ := held_some fun j => (j != k && !(rel k j)) && (i + 1).testBit j
    refine ⟨f, h1, ?_⟩
    rw [← h2, ← hl]
    unfold Plain.heldOf
    rw [List.filter_filter]
  have hkl : k ∉ l := by
    rw [← hl, List.mem_filter]
    rintro ⟨_, h⟩
    simp at h
  have hlt : f < i + 1 := by
    refine held_less (i + 1) (by omega) f hf ?_ ?_
    · rw [← he, List.all_eq_true]
      intro x hx
      rw [← hl] at hx
      exact List.contains_iff_mem.mpr (List.mem_filter.mp hx).1
    · intro e
      rw [← he] at e
      exact hkl (e ▸ hk)
  rw [dueT_mem]
  cases f with
  | zero => exact .inl (he.trans held_zero)
  | succ f =>
    refine .inr ⟨f, by omega, ?_, he.symm⟩
    unfold opn
    rw [← he]
    rw [Bool.eq_false_iff]
    intro ha
    obtain ⟨x, hx, hy⟩ := List.any_eq_true.mp ha
    obtain ⟨y, hy5, hy2⟩ := List.any_eq_true.mp hy
    rw [Bool.and_eq_true] at hy2
    obtain ⟨h1, h2⟩ := hy2
    have hx2 := hx
    rw [← hl, List.mem_filter] at hx2
    obtain ⟨g1, g2⟩ := hx2
    simp only [Bool.and_eq_true, Bool.not_eq_true', bne_iff_ne, ne_eq] at g2
    have hyh : y ∈ Plain.heldOf (i + 1) := by
      apply Classical.byContradiction
      intro hn
      have : ((Plain.heldOf (i + 1)).any fun k => (List.range 5).any fun j => rel j k && !((Plain.heldOf (i + 1)).contains j)) = true := by
        refine List.any_eq_true.mpr ⟨x, g1, List.any_eq_true.mpr ⟨y, hy5, ?_⟩⟩
        rw [Bool.and_eq_true]
        refine ⟨h1, ?_⟩
        simpa using hn
      rw [ho] at this
      cases this
    have hyl : y ∈ l := by
      rw [← hl, List.mem_filter]
      refine ⟨hyh, ?_⟩
      simp only [Bool.and_eq_true, Bool.not_eq_true', bne_iff_ne, ne_eq]
      refine ⟨fun e => ?_, ?_⟩
      · rw [e, g2.2] at h1
        cases h1
      · cases hr : rel k y with
        | false => rfl
        | true =>
          have := htr _ _ _ hr h1
          rw [g2.2] at this
          cases this
    simp [hyl] at h2
end Mine
end
section
theorem Mine.off_W44 : True := by (w_top off; trivial)
open PySem PySem.W PyProof.Rows PySem.Spec PySem.Calls PyProof.Rows.LSm
set_option maxRecDepth 100000
namespace Mine
open Plain (Wd)
def held_W44_1 : List String := "eval ListComp;call type:zip;call builtin:all;exec For Name Call cons nil;Exists;Src;eval Dict".splitOn ";"
local macro_rules | `(tactic| walk_at $s:str) => if held_W44_1.contains s.getString then `(tactic| (k_here; refine hold ?_)) else Lean.Macro.throwUnsupported
local macro_rules | `(tactic| walk_at "call ref") => `(tactic| (k_here; (try dsimp only [List.cons_append, List.nil_append, List.append_nil]); refine hold ?_))
local macro_rules | `(tactic| walk_at "pyIter ref") => `(tactic| (k_here; (with_reducible show wpAny _ _ (pyIter (Value.ref _)) (LoopC _ _ _ _ _ _ _ _ _) _ _); refine hold ?_))
namespace K_due_spec
set_option maxHeartbeats 1000000 in
noncomputable def cut : (@Subtype Prop fun P => P → ∀ {w : World} {p : Program} {loose : List Str} {mean : ExcName → Option Value} {mg mb : Str → Option Value} {A₀ : Around} {base h₀ : Heap} {L : Addr} {m : Str → Option Value} {cn : Str} {cs : Scope} {ca : Addr} {ccd : Value} {cl : List (Str × Addr)} {outer : List Env} {gd : Option (List Code)} {s : Shared} {R : Result → Shared → Prop} {news : List (Addr × Obj)} {al : Addr} {lvs : List Value} {lk : Nat} {ls : List (List Nat)} (B : Below A₀ base outer h₀) (F : Fr h₀ L s.heap m) (X : (Mine.hd.heap_39 w.params).In h₀) (N : News h₀ L s.heap news) (T : Top p loose mean mg mb h₀) (hk : cs.kind = .function) (hm : (al, W.listOf lvs.toArray lk) ∈ news) (hlv : Paired (fun l v => ∃ t, v = Value.str ⟨l.toArray⟩ t) ls lvs) (hls : ls.length = 5) (hlf : ∀ l ∈ ls, l.length ≤ 8 ∧ ∀ c ∈ l, c = 32 ∨ c = 9) (h : ∀ dd od h' tk', Fr h₀ L h' m → News h₀ L h' (news ++ [(dd, od)]) → od.IsDictOf (PySem.strKind Challenge.rw_pg0196_01.row.prog w) (dueK (Plain.dueOf (dprAt ls))) → (dd == sysModules) = false → R (.ok (.ret (.ref dd))) { s with heap := h', toks := tk' }), codeAny (model Challenge.rw_pg0196_01.row.prog w) (At 40 gd (envX cn cs L ca ccd cl :: outer)) (.call (.ref 160) ⟨[.ref al], []⟩) R s) := by
  refine' mkCut fun hole => ?_
  rotate_left
  focus
  intro w p loose mean mg mb A₀ base h₀ L m cn cs ca ccd cl outer gd s R news al lvs lk ls B F X N T hk hm hlv hls hlf h
  revert X
  k_fill
  intro X
  k_dflt (refine' code_defC ?k1 ?k2 ?k3 ?k4 ?k5 ?kA ?kF ?kK ?k6 ?k7 ?k8 ?k9 ?kB ?kD ?_ ?c2 ?c3 ?c4; (case kA => exact rfl); (case kF => exact rfl); (case kK => exact hk); (case k1 => k_asm); (case k2 => k_asm); (case k3 => k_asm); (case k4 => k_asm); (case k5 => k_asm); (case k6 => k_is); (case k7 => k_is); (case k8 => ktr_room); (case k9 => exact BindsTo.of_eq rfl); (case kB => exact rfl); (case kD => decide +kernel); (case c2 => exact rfl); (case c3 => exact rfl); (case c4 => exact rfl); k_whole; intro g' L' h' tk' cells' FG' F' N' Y' B' X' T' l1; (try k_lt l1); obtain ⟨o1, o2, o3, o4, o5, hE, d1, d2, d3, d4, d5⟩ := kc_five Y'; subst hE; clear Y'; (try simp only [List.cons_append, List.nil_append] at N'); (try dsimp only); (try k_lift B'); (try k_fold))
  k_steps
  unfold Hold
  (rename Fr _ _ _ _ => gF); (rename News _ _ _ _ => gN); (rename Below _ _ _ _ => fB); (rename Frag.In _ _ => fX); (rename Top _ _ _ _ _ _ => fT)
  have gF2 := gF
  have gN2 := gN
  k_dflt (refine' lcU (α := List Nat) gF2 ?hclos ?hcell ?hkind ?hnames ?hx ?_)
  case hclos => with_unfolding_all rfl
  case hcell => decide
  case hkind => rfl
  case hnames => decide
  case hx => rfl
  walk1
  refine ⟨_, ls, fun l v => ∃ t, v = Value.str ⟨l.toArray⟩ t, fun l y ex => ∃ a n t1 t2 t3 t4 t5, y = Value.ref a ∧ ex = [(a, colO l t1 t2 t3 t4 t5 n)], rfl, gF2, gN2, ?src, ?el, ?fin⟩
  case src => exact .lst (List.mem_cons_of_mem _ (List.mem_cons_of_mem _ (List.mem_cons_of_mem _ (List.mem_cons_of_mem _ (List.mem_cons_of_mem _ hm))))) (by rw [sizeLine_eq, ← paired_len hlv]; omega) hlv
  case el =>
    rintro l v I oI C oC D m₂ ys exs h5 tk5 E' hl ⟨t, rfl⟩ hC hx hown F5 N5
    clear gF gN gF2 gN2
    k_steps
    unfold Hold
    refine wpAny_call ?_
    (rename Fr _ _ _ _ => kF); (rename News _ _ _ _ => kN)
    k_dflt (refine' code_at (columns_spec fB kF fX kN fT ?hk ?hx ?hlen ?h) ?b1 ?b2 ?b3 ?b4 ?b5)
    case b1 => exact rfl
    case b2 => exact rfl
    case b3 => exact rfl
    case b4 => exact Nat.le_of_ble_eq_true rfl
    case b5 => exact Nat.le_of_ble_eq_true rfl
    case hk => exact rfl
    case hx => exact (hlf l hl).2
    case hlen => exact (hlf l hl).1
    case h =>
      clear kF kN
      intro h6 tk6 a n t1 t2 t3 t4 t5 F6 N6 hlt
      refine ⟨[(a, _)], _, _, rfl, F6, (fun p hp => N6 p ?_), ⟨a, n, t1, t2, t3, t4, t5, rfl, rfl⟩, fun p hp q hq => ?_⟩
      · (try simp only [List.cons_append, List.nil_append] at hp ⊢)
        revert p; k_extra "x:sub"
      · rw [List.mem_singleton.mp hp]
        exact Nat.ne_of_gt (hlt q hq)
  case fin =>
    intro D h5 tk5 ys exs F5 N5 hown hy hD
    clear gF gN gF2 gN2
    have N6 : News g' L' h5 ((D, LCg.lst ys) :: (L' + 1 + 1 + 1 + 1 + 1, o1) :: (L' + 1 + 1 + 1 + 1, o2) :: (L' + 1 + 1 + 1, o3) :: (L' + 1 + 1, o4) :: (L' + 1, o5) :: (exs ++ news)) := news_re N5 fun p hp => by
      revert p; k_extra "x:sub"
    clear N5
    revert B F N T hk hm hlv hls hlf h X FG' fB fX fT l1 d1 d2 d3 d4 d5 F5 hown hy hD N6
    revert qk ek
    dsimp (config := { beta := false, eta := false, etaStruct := .none, iota := false, proj := false }) only
    revert w p loose mean mg mb A₀ base h₀ L m cn cs ca ccd cl outer gd s R news al lvs lk ls g' L' h' tk' o1 o2 o3 o4 o5 D h5 tk5 ys exs
    exact no_implicit_lambda% hole.get
noncomputable section
noncomputable def Pcut : (World) → (Program) → (List Str) → (ExcName → Option Value) → (Str → Option Value) → (Str → Option Value) → (Around) → (Heap) → (Heap) → (Addr) → (Str → Option Value) → (Str) → (Scope) → (Addr) → (Value) → (List (Str × Addr)) → (List Env) → (Option (List Code)) → (Shared) → (Result → Shared → Prop) → (List (Addr × Obj)) → (Addr) → (List Value) → (Nat) → (List (List Nat)) → (Heap) → (Addr) → (Heap) → (Nat) → (Obj) → (Obj) → (Obj) → (Obj) → (Obj) → (Addr) → (Heap) → (Nat) → (List Value) → (List (Addr × Obj)) → Prop := (@id (∀ {Rcut : (World) → (Program) → (List Str) → (ExcName → Option Value) → (Str → Option Value) → (Str → Option Value) → (Around) → (Heap) → (Heap) → (Addr) → (Str → Option Value) → (Str) → (Scope) → (Addr) → (Value) → (List (Str × Addr)) → (List Env) → (Option (List Code)) → (Shared) → (Result → Shared → Prop) → (List (Addr × Obj)) → (Addr) → (List Value) → (Nat) → (List (List Nat)) → (Heap) → (Addr) → (Heap) → (Nat) → (Obj) → (Obj) → (Obj) → (Obj) → (Obj) → (Addr) → (Heap) → (Nat) → (List Value) → (List (Addr × Obj)) → Prop}, cut.1 = (∀ w p loose mean mg mb A₀ base h₀ L m cn cs ca ccd cl outer gd s R news al lvs lk ls g' L' h' tk' o1 o2 o3 o4 o5 D h5 tk5 ys exs, Rcut w p loose mean mg mb A₀ base h₀ L m cn cs ca ccd cl outer gd s R news al lvs lk ls g' L' h' tk' o1 o2 o3 o4 o5 D h5 tk5 ys exs) → _) fun {Rcut} _ => Rcut) rfl
noncomputable def Tcut : Type := (World × Program × (List Str) × (ExcName → Option Value) × (Str → Option Value) × (Str → Option Value) × Around) × (Heap × Heap × Addr × (Str → Option Value) × Str × Scope × Addr) × (Value × (List (Str × Addr)) × (List Env) × (Option (List Code)) × Shared × (Result → Shared → Prop) × (List (Addr × Obj))) × (Addr × (List Value) × Nat × (List (List Nat)) × Heap × Addr × Heap) × (Nat × Obj × Obj × Obj × Obj × Obj × Addr) × (Heap × Nat × (List Value) × (List (Addr × Obj)))
noncomputable def Qcut (x : Tcut) : Prop := Pcut x.1.1 x.1.2.1 x.1.2.2.1 x.1.2.2.2.1 x.1.2.2.2.2.1 x.1.2.2.2.2.2.1 x.1.2.2.2.2.2.2 x.2.1.1 x.2.1.2.1 x.2.1.2.2.1 x.2.1.2.2.2.1 x.2.1.2.2.2.2.1 x.2.1.2.2.2.2.2.1 x.2.1.2.2.2.2.2.2 x.2.2.1.1 x.2.2.1.2.1 x.2.2.1.2.2.1 x.2.2.1.2.2.2.1 x.2.2.1.2.2.2.2.1 x.2.2.1.2.2.2.2.2.1 x.2.2.1.2.2.2.2.2.2 x.2.2.2.1.1 x.2.2.2.1.2.1 x.2.2.2.1.2.2.1 x.2.2.2.1.2.2.2.1 x.2.2.2.1.2.2.2.2.1 x.2.2.2.1.2.2.2.2.2.1 x.2.2.2.1.2.2.2.2.2.2 x.2.2.2.2.1.1 x.2.2.2.2.1.2.1 x.2.2.2.2.1.2.2.1 x.2.2.2.2.1.2.2.2.1 x.2.2.2.2.1.2.2.2.2.1 x.2.2.2.2.1.2.2.2.2.2.1 x.2.2.2.2.1.2.2.2.2.2.2 x.2.2.2.2.2.1 x.2.2.2.2.2.2.1 x.2.2.2.2.2.2.2.1 x.2.2.2.2.2.2.2.2
theorem ex_cut : ∃ x : Tcut, Qcut x → ∀ y, Qcut y := by
  haveI := neW; haveI := neA; haveI := neS
  haveI : Nonempty Tcut := by unfold Tcut; set_option synthInstance.maxSize 2000 in infer_instance
  exact henk1 Qcut
noncomputable def Ccut : Tcut := Classical.choose ex_cut
@[irreducible] noncomputable def w : World := Ccut.1.1
@[irreducible] noncomputable def p : Program := Ccut.1.2.1
@[irreducible] noncomputable def loose : List Str := Ccut.1.2.2.1
@[irreducible] noncomputable def mean : ExcName → Option Value := Ccut.1.2.2.2.1
@[irreducible] noncomputable def mg : Str → Option Value := Ccut.1.2.2.2.2.1
@[irreducible] noncomputable def mb : Str → Option Value := Ccut.1.2.2.2.2.2.1
@[irreducible] noncomputable def A₀ : Around := Ccut.1.2.2.2.2.2.2
@[irreducible] noncomputable def base : Heap := Ccut.2.1.1
@[irreducible] noncomputable def h₀ : Heap := Ccut.2.1.2.1
@[irreducible] noncomputable def L : Addr := Ccut.2.1.2.2.1
@[irreducible] noncomputable def m : Str → Option Value := Ccut.2.1.2.2.2.1
@[irreducible] noncomputable def cn : Str := Ccut.2.1.2.2.2.2.1
@[irreducible] noncomputable def cs : Scope := Ccut.2.1.2.2.2.2.2.1
@[irreducible] noncomputable def ca : Addr := Ccut.2.1.2.2.2.2.2.2
@[irreducible] noncomputable def ccd : Value := Ccut.2.2.1.1
@[irreducible] noncomputable def cl : List (Str × Addr) := Ccut.2.2.1.2.1
@[irreducible] noncomputable def outer : List Env := Ccut.2.2.1.2.2.1
@[irreducible] noncomputable def gd : Option (List Code) := Ccut.2.2.1.2.2.2.1
@[irreducible] noncomputable def s : Shared := Ccut.2.2.1.2.2.2.2.1
@[irreducible] noncomputable def R : Result → Shared → Prop := Ccut.2.2.1.2.2.2.2.2.1
@[irreducible] noncomputable def news : List (Addr × Obj) := Ccut.2.2.1.2.2.2.2.2.2
@[irreducible] noncomputable def al : Addr := Ccut.2.2.2.1.1
@[irreducible] noncomputable def lvs : List Value := Ccut.2.2.2.1.2.1
@[irreducible] noncomputable def lk : Nat := Ccut.2.2.2.1.2.2.1
@[irreducible] noncomputable def ls : List (List Nat) := Ccut.2.2.2.1.2.2.2.1
@[irreducible] noncomputable def g' : Heap := Ccut.2.2.2.1.2.2.2.2.1
@[irreducible] noncomputable def L' : Addr := Ccut.2.2.2.1.2.2.2.2.2.1
@[irreducible] noncomputable def h' : Heap := Ccut.2.2.2.1.2.2.2.2.2.2
@[irreducible] noncomputable def tk' : Nat := Ccut.2.2.2.2.1.1
@[irreducible] noncomputable def o1 : Obj := Ccut.2.2.2.2.1.2.1
@[irreducible] noncomputable def o2 : Obj := Ccut.2.2.2.2.1.2.2.1
@[irreducible] noncomputable def o3 : Obj := Ccut.2.2.2.2.1.2.2.2.1
@[irreducible] noncomputable def o4 : Obj := Ccut.2.2.2.2.1.2.2.2.2.1
@[irreducible] noncomputable def o5 : Obj := Ccut.2.2.2.2.1.2.2.2.2.2.1
@[irreducible] noncomputable def D : Addr := Ccut.2.2.2.2.1.2.2.2.2.2.2
@[irreducible] noncomputable def h5 : Heap := Ccut.2.2.2.2.2.1
@[irreducible] noncomputable def tk5 : Nat := Ccut.2.2.2.2.2.2.1
@[irreducible] noncomputable def ys : List Value := Ccut.2.2.2.2.2.2.2.1
@[irreducible] noncomputable def exs : List (Addr × Obj) := Ccut.2.2.2.2.2.2.2.2
end
set_option maxHeartbeats 1000000 in
theorem at_cut : Pcut w p loose mean mg mb A₀ base h₀ L m cn cs ca ccd cl outer gd s R news al lvs lk ls g' L' h' tk' o1 o2 o3 o4 o5 D h5 tk5 ys exs := by
  intro B F N T hk hm hlv hls hlf h X FG' fB fX fT l1 d1 d2 d3 d4 d5 F5 hown hy hD N6
  have nlt : ∀ p ∈ news, @LT.lt Nat _ p.1 L' := l1
  have u5 : ∀ p ∈ exs ++ news, p.1 ≠ L' + 1 + 1 + 1 + 1 + 1 := mem3 (fun p hp => (hown p hp).2 _ (.head _)) (fun p hp => neN (by have := nlt p hp; omega))
  have u4 : ∀ p ∈ exs ++ news, p.1 ≠ L' + 1 + 1 + 1 + 1 := mem3 (fun p hp => (hown p hp).2 _ (.tail _ (.head _))) (fun p hp => neN (by have := nlt p hp; omega))
  have u3 : ∀ p ∈ exs ++ news, p.1 ≠ L' + 1 + 1 + 1 := mem3 (fun p hp => (hown p hp).2 _ (.tail _ (.tail _ (.head _)))) (fun p hp => neN (by have := nlt p hp; omega))
  have u2 : ∀ p ∈ exs ++ news, p.1 ≠ L' + 1 + 1 := mem3 (fun p hp => (hown p hp).2 _ (.tail _ (.tail _ (.tail _ (.head _))))) (fun p hp => neN (by have := nlt p hp; omega))
  have u1 : ∀ p ∈ exs ++ news, p.1 ≠ L' + 1 := mem3 (fun p hp => (hown p hp).2 _ (.tail _ (.tail _ (.tail _ (.tail _ (.head _)))))) (fun p hp => neN (by have := nlt p hp; omega))
  have uD : ∀ p ∈ exs ++ news, p.1 ≠ D := mem3 (fun p hp => hD p (List.mem_append_left _ hp)) (fun p hp => hD p (List.mem_append_right _ (.tail _ (.tail _ (.tail _ (.tail _ (.tail _ hp)))))))
  have e5 : @Ne Nat (L' + 1 + 1 + 1 + 1 + 1) D := hD (L' + 1 + 1 + 1 + 1 + 1, o1) (List.mem_append_right _ (.head _))
  have e4 : @Ne Nat (L' + 1 + 1 + 1 + 1) D := hD (L' + 1 + 1 + 1 + 1, o2) (List.mem_append_right _ (.tail _ (.head _)))
  have e3 : @Ne Nat (L' + 1 + 1 + 1) D := hD (L' + 1 + 1 + 1, o3) (List.mem_append_right _ (.tail _ (.tail _ (.head _))))
  have e2 : @Ne Nat (L' + 1 + 1) D := hD (L' + 1 + 1, o4) (List.mem_append_right _ (.tail _ (.tail _ (.tail _ (.head _)))))
  have e1 : @Ne Nat (L' + 1) D := hD (L' + 1, o5) (List.mem_append_right _ (.tail _ (.tail _ (.tail _ (.tail _ (.head _))))))
  k_steps
  unfold Hold
  (rename Fr g' _ _ _ => gF); (rename News g' _ _ _ => gN)
  rename_i q1 oc1 dc1
  have hy2 : Paired (fun l v => ∃ a n t1 t2 t3 t4 t5, v = Value.ref a ∧ (a, colO l t1 t2 t3 t4 t5 n) ∈ exs) ls ys := Paired.mono' (fun l v ⟨ex, ⟨a, n, t1, t2, t3, t4, t5, e1, e2⟩, h2⟩ => ⟨a, n, t1, t2, t3, t4, t5, e1, h2 _ (by rw [e2]; exact .head _)⟩) hy
  have hyl : ys.length = 5 := by rw [← paired_len hy, hls]
  have gF2 := gF
  have gN2 := gN
  clear gF gN
  k_dflt (refine' lcC (α := List Nat) (ifs := []) gF2 ?hclos ?hkind ?hnames ?hcf ?hpc ?hx ?_)
  case hclos => with_unfolding_all rfl
  case hkind => rfl
  case hnames => decide
  case hcf => intro n; rfl
  case hpc => intro h; rfl
  case hx => with_unfolding_all rfl
  walk1
  refine ⟨_, D, ys, ys.length, ls, fun l v => ∃ a n t1 t2 t3 t4 t5, v = Value.ref a ∧ (a, colO l t1 t2 t3 t4 t5 n) ∈ exs, fun _ => true, fun l y ex => ∃ D2, y = Value.ref D2 ∧ ex = [(D2, LCg.lst (ls.map fun l2 => Value.bool (dpr l l2)))], rfl, rfl, gF2, gN2, .head _, (by rw [sizeLine_eq]; omega), hy2, ?tst, ?el, ?fin⟩
  case tst =>
    intro l v I oI C oC c oc D1 ys1 exs1 h6 tk6 E' hl hv hoc hown1 F6 N6
    exact wpAny_tests_nil ⟨rfl, _, _, rfl, F6, N6⟩
  case el =>
    rintro l v I oI C oC c oc D1 ys1 exs1 h6 tk6 E' hl ⟨a, n, t1, t2, t3, t4, t5, rfl, ha⟩ hoc hown1 F6 N6 -
    clear gF2 gN2
    have N7 : News g' L' h6 ((I, oI) :: (C, oC) :: (c, oc) :: (D1, LCg.lst ys1) :: (D, LCg.lst ys) :: (L' + 1 + 1 + 1 + 1 + 1, o1) :: (L' + 1 + 1 + 1 + 1, o2) :: (L' + 1 + 1 + 1, o3) :: (L' + 1 + 1, o4) :: (L' + 1, oc1) :: (exs1 ++ (exs ++ news))) := news_re N6 fun p hp => by
      revert p; k_extra "x:sub"
    clear N6
    k_steps
    unfold Hold
    k_dflt (refine' lcU (α := List Nat) F6 ?hclos ?hcell ?hkind ?hnames ?hx ?_)
    case hclos => with_unfolding_all rfl
    case hcell => decide
    case hkind => rfl
    case hnames => decide
    case hx => rfl
    walk1
    refine ⟨_, ls, fun l v => ∃ a n t1 t2 t3 t4 t5, v = Value.ref a ∧ (a, colO l t1 t2 t3 t4 t5 n) ∈ exs, fun l2 y ex => y = Value.bool (dpr l l2) ∧ ex = [], rfl, F6, N7, ?src2, ?el2, ?fin2⟩
    case src2 => exact .lst (k := ys.length) (vs := ys) (by k_mem) (by rw [sizeLine_eq]; omega) hy2
    case el2 =>
      rintro l2 v I2 oI2 C2 oC2 D2 m₂ ys2 exs2 h7 tk7 E2 hl2 ⟨b, n2, s1, s2, s3, s4, s5, rfl, hb⟩ hC2 hx2 hown2 F8 N8
      have hx0 := hown2.none (fun _ _ _ h => h.2)
      subst hx0
      clear N7 F6
      have N9 : News g' L' h7 ((I2, oI2) :: (C2, oC2) :: (D2, LCg.lst ys2) :: (a, colO l t1 t2 t3 t4 t5 n) :: (b, colO l2 s1 s2 s3 s4 s5 n2) :: (I, oI) :: (C, oC) :: (c, oc) :: (D1, LCg.lst ys1) :: (D, LCg.lst ys) :: (L' + 1 + 1 + 1 + 1 + 1, o1) :: (L' + 1 + 1 + 1 + 1, o2) :: (L' + 1 + 1 + 1, o3) :: (L' + 1 + 1, o4) :: (L' + 1, oc1) :: (exs1 ++ (exs ++ news))) := news_re N8 fun p hp => by
        (try simp only [List.nil_append] at hp ⊢)
        revert p; k_extra "x:sub"
      clear N8
      k_steps
      unfold Hold
      k_dflt (refine' lcZ (α := Nat × Nat) F8 ?hclosz ?hcellz ?hkindz ?hnamesz ?hxz ?hx2z ?hxxz ?_)
      case hclosz => with_unfolding_all rfl
      case hcellz => decide
      case hkindz => rfl
      case hnamesz => decide
      case hxz => rfl
      case hx2z => rfl
      case hxxz => decide
      k_steps
      unfold Hold
      (rename Fr g' _ _ _ => kF); (rename News g' _ _ _ => kN)
      k_dflt (refine' zipK (by rfl) kF kN (a := a) (b := b) (vs := [.int (Plain.col 1 l) t1, .int (Plain.col 2 l) t2, .int (Plain.col 3 l) t3, .int (Plain.col 4 l) t4, .int (Plain.col 5 l) t5]) (us := [.int (Plain.col 1 l2) s1, .int (Plain.col 2 l2) s2, .int (Plain.col 3 l2) s3, .int (Plain.col 4 l2) s4, .int (Plain.col 5 l2) s5]) (k := n) (j := n2) ?hza ?hzb ?_)
      case hza => k_mem
      case hzb => k_mem
      clear kF kN
      intro z h8 fp wr St Mid W hst hfp hLf hwr hnw F9 N9
      refine ⟨z, fp, wr, 5, _, St, Mid, _, (Plain.cols l).zip (Plain.cols l2), fun k v1 v2 => ∃ ta tb, v1 = .int (k.1 : Int) ta ∧ v2 = .int (k.2 : Int) tb, fun k y => y = .bool (decide (k.1 < k.2)), rfl, rfl, W, hst, hfp, hLf, hwr, hnw, F9, N9, rfl, (by rw [sizeLine_eq]; omega), ?pt, ?elz, ?finz⟩
      case pt =>
        rintro i vals hi ⟨x, y, hx, hy, rfl⟩
        match i, hi with
        | 0, _ => cases hx; cases hy; exact ⟨_, _, _, rfl, rfl, _, _, rfl, rfl⟩
        | 1, _ => cases hx; cases hy; exact ⟨_, _, _, rfl, rfl, _, _, rfl, rfl⟩
        | 2, _ => cases hx; cases hy; exact ⟨_, _, _, rfl, rfl, _, _, rfl, rfl⟩
        | 3, _ => cases hx; cases hy; exact ⟨_, _, _, rfl, rfl, _, _, rfl, rfl⟩
        | 4, _ => cases hx; cases hy; exact ⟨_, _, _, rfl, rfl, _, _, rfl, rfl⟩
      case elz =>
        rintro k v1 v2 C3 oC3 D3 m3 ys3 own3 h9 tk9 E3 hk3 ⟨ta, tb, rfl, rfl⟩ hC3 hx3 hx32 F10 N10
        clear F9 N9
        walk1
        walk1
        walk1
        walk1
        exact ⟨congrArg Value.bool (decide_eq_decide.mpr Int.ofNat_lt), _, _, rfl, F10, N10⟩
      case finz =>
        intro D3 h9 tk9 ys3 F10 N10 hp3 hlt3
        clear F9 N9
        k_steps
        unfold Hold
        (rename Fr g' _ _ _ => kF); (rename News g' _ _ _ => kN)
        have hb3 := paired_bools (f := fun k : Nat × Nat => decide (k.1 < k.2)) (fun _ _ h => h) hp3
        k_dflt (refine' LSm.all_bools kF kN (by rfl) ⟨_, (kN (D3, LCg.lst ys3) (by k_mem)).1, rfl, _, rfl⟩ hb3 ?_)
        clear kF kN
        intro h10 tk10 F11 N11
        refine ⟨[], _, _, rfl, F11, (fun p hp => N11 p ?_), ⟨?_, rfl⟩, List.forall_mem_nil _⟩
        · (try simp only [List.nil_append, List.cons_append] at hp ⊢)
          revert p; k_extra "x:sub"
        · unfold dpr
          rw [List.all_map]
          rfl
    case fin2 =>
      intro D2 h7 tk7 ys2 exs2 F8 N8 hown2 hy8 hD8
      have hx0 := hown2.none (fun _ _ _ h => h.2)
      subst hx0
      have e2 := paired_eq (f := fun l2 => Value.bool (dpr l l2)) (fun _ _ _ h => h.1) hy8
      subst e2
      refine ⟨[(D2, _)], _, _, rfl, F8, (fun p hp => N8 p ?_), ⟨D2, rfl, rfl⟩, fun p hp q hq => ?_⟩
      · (try simp only [List.cons_append, List.nil_append] at hp ⊢)
        revert p; k_extra "x:sub"
      · rw [List.mem_singleton.mp hp]
        refine Ne.symm (hD8 q ?_)
        (try simp only [List.cons_append, List.nil_append] at hq ⊢)
        revert q; k_extra "x:sub"
  case fin =>
    intro D2 h6 tk6 ys2 exs2 F6 N6 hown2 hy6 hD6
    obtain ⟨tl, htl⟩ : ∃ tl, tl = exs2 ++ ((D, LCg.lst ys) :: (exs ++ news)) := ⟨_, rfl⟩
    have N7 : News g' L' h6 ((D2, LCg.lst ys2) :: (L' + 1 + 1 + 1 + 1 + 1, o1) :: (L' + 1 + 1 + 1 + 1, o2) :: (L' + 1 + 1 + 1, o3) :: (L' + 1 + 1, o4) :: (L' + 1, oc1) :: tl) := news_re N6 fun p hp => by
      rw [htl] at hp
      revert p; k_extra "x:sub"
    have hrows : Paired (fun l y => ∃ D', y = Value.ref D' ∧ (D', LCg.lst (ls.map fun l2 => Value.bool (dpr l l2))) ∈ tl) ls ys2 := by
      have e : ls.filter (fun _ => true) = ls := by simp
      rw [e] at hy6
      exact Paired.mono' (fun l v ⟨ex, ⟨D', e1, e2⟩, h2⟩ => ⟨D', e1, by rw [htl]; exact List.mem_append_left _ (h2 _ (by rw [e2]; exact .head _))⟩) hy6
    have hnews : ∀ p ∈ news, p ∈ tl := fun p hp => by rw [htl]; simp [hp]
    have offT : ∀ {d : Nat}, (∀ p ∈ exs2, @Ne Nat p.1 d) → @Ne Nat D d → (∀ p ∈ exs ++ news, @Ne Nat p.1 d) → ∀ p ∈ tl, @Ne Nat p.1 d := fun {d} a1 a2 a3 p hp => by
      rw [htl] at hp
      rcases List.mem_append.mp hp with hp | hp
      · exact a1 p hp
      · rcases List.mem_cons.mp hp with rfl | hp
        · exact a2
        · exact a3 p hp
    have v5 := offT (fun p hp => (hown2 p hp).2 (L' + 1 + 1 + 1 + 1 + 1, o1) (.tail _ (.head _))) e5.symm u5
    have v4 := offT (fun p hp => (hown2 p hp).2 (L' + 1 + 1 + 1 + 1, o2) (.tail _ (.tail _ (.head _)))) e4.symm u4
    have v3 := offT (fun p hp => (hown2 p hp).2 (L' + 1 + 1 + 1, o3) (.tail _ (.tail _ (.tail _ (.head _))))) e3.symm u3
    have v2 := offT (fun p hp => (hown2 p hp).2 (L' + 1 + 1, o4) (.tail _ (.tail _ (.tail _ (.tail _ (.head _)))))) e2.symm u2
    have v1 := offT (fun p hp => (hown2 p hp).2 (L' + 1, oc1) (.tail _ (.tail _ (.tail _ (.tail _ (.tail _ (.head _))))))) e1.symm u1
    have f5 : @Ne Nat (L' + 1 + 1 + 1 + 1 + 1) D2 := hD6 (L' + 1 + 1 + 1 + 1 + 1, o1) (List.mem_append_right _ (.tail _ (.head _)))
    have f4 : @Ne Nat (L' + 1 + 1 + 1 + 1) D2 := hD6 (L' + 1 + 1 + 1 + 1, o2) (List.mem_append_right _ (.tail _ (.tail _ (.head _))))
    have f3 : @Ne Nat (L' + 1 + 1 + 1) D2 := hD6 (L' + 1 + 1 + 1, o3) (List.mem_append_right _ (.tail _ (.tail _ (.tail _ (.head _)))))
    have f2 : @Ne Nat (L' + 1 + 1) D2 := hD6 (L' + 1 + 1, o4) (List.mem_append_right _ (.tail _ (.tail _ (.tail _ (.tail _ (.head _))))))
    have f1 : @Ne Nat (L' + 1) D2 := hD6 (L' + 1, oc1) (List.mem_append_right _ (.tail _ (.tail _ (.tail _ (.tail _ (.tail _ (.head _)))))))
    clear N6 gN2 gF2 hown2 hown hD hD6 u1 u2 u3 u4 u5 uD e1 e2 e3 e4 e5 hy hy6 offT
    clear htl hy2
    k_steps; repeat' (first | (refine unhold ?_; (first | (k_dflt (refine' kdn_eval (knd := PySem.strKind _ _) ?Fzq ?Nzq ?bzq ?azq ?lzq ?ezq ?nzq ?_; (case Fzq => k_asm); (case Nzq => k_asm); (case bzq => exact Top.nolimit (by k_asm)); (case azq => rfl); (case lzq => rfl); (case ezq => exact List.cons_ne_nil _ _); (case nzq => exact Nat.le_of_ble_eq_true rfl)); intro d' h' o' F' N' l1 lo' hd'; (try k_lt l1); (try (revert d' h' o' F' N' l1 lo' hd'; intros)))); (try k_steps)))
    unfold Hold
    (rename Fr g' _ _ _ => gF); (rename News g' _ _ _ => gN)
    refine For_cell ?_
    k_steps
    unfold Hold
    rename_i hp4 odeep ddeep dd hp3 od0 hsys hd0 lt1 hp2 od hod hf hp1 odue Fx Nx ddue hh tkh tk1 tk2 tk3 gR gF gN gk
    clear hd0 hf
    obtain ⟨q2, q3, q4, q5, q6, q7, q8⟩ := lt1
    have g2 : @LT.lt Nat _ D2 dd := q2
    have g5 : @LT.lt Nat _ (L' + 1 + 1 + 1 + 1 + 1) dd := q3
    clear q2 q3 q4 q5 q6 q7
    have q9 : ∀ p ∈ tl, p.1 ≠ dd := allLt_ne q8
    obtain ⟨cv1, d1'⟩ : ∃ cv, o1.data = .cell cv := ⟨_, d1⟩
    refine wpAny_pyIter_range gR (by decide) ?_
    let Led : Obj × Option Value × Obj → List (Addr × Obj) := fun a => (L' + 1 + 1 + 1 + 1 + 1, a.1) :: (L' + 1 + 1 + 1, odue) :: (dd, a.2.2) :: (L' + 1 + 1, odeep) :: (L' + 1, oc1) :: (D2, LCg.lst ys2) :: tl
    have hl0 : ∀ (cv : Option Value), ∀ p ∈ Led (o1, cv, od), p ∈ ((dd, od) :: (D2, LCg.lst ys2) :: (L' + 1 + 1 + 1 + 1 + 1, o1) :: (L' + 1 + 1 + 1 + 1, o2) :: (L' + 1 + 1 + 1, odue) :: (L' + 1 + 1, odeep) :: (L' + 1, oc1) :: tl : List (Addr × Obj)) := fun cv p hp => by
      (try simp only [Led] at hp ⊢)
      revert p; k_extra "x:sub"
    refine' loopC_S (c := L' + 1 + 1 + 1 + 1) (oc := o2) Led (fun _ => []) [Str.ofString "top", Str.ofString "left"] (fun i a => a.1.data = .cell a.2.1 ∧ a.2.2.IsDictOf (PySem.strKind Challenge.rw_pg0196_01.row.prog w) (dueK (dueT (dprAt ls) i))) (o1, cv1, od) (LCg.range_walks (by rfl) 1 31) (fun i h st => ⟨_, st⟩) ?hSt ?hcf (next_is_new gF) (Nat.ne_of_lt gF.ns.lt) ?hkind ?hx ?hcx ?hst (gF.push _) (fun p hp => ⟨Heap.get?_push_of_some _ (gN p hp).1, (gN p hp).2⟩) ?hc d2 (hl0 _) ?hlI ?hlc ?hk ?hp ?turn ?done
    case hSt =>
      intro i h1 h2 o nw st e e' _ _ _
      have st' : h1.get? _ = some _ := st
      show h2.get? _ = some _
      rw [e', ← e]; exact st'
    case hcf => exact fun hm => absurd (List.mem_singleton.mp hm) (Nat.ne_of_lt (Heap.lt_size (gN (L' + 1 + 1 + 1 + 1, o2) (by k_mem)).1))
    case hkind => rfl
    case hx => rfl
    case hcx => rfl
    case hst => exact Heap.get?_push_size _ rfl
    case hc => exact (by k_mem)
    case hlI => exact fun p hp => Nat.ne_of_lt (Heap.lt_size (gN p (hl0 _ p hp)).1)
    case hlc =>
      intro i a _ p hp
      simp only [Led, List.mem_cons] at hp
      rcases hp with rfl | rfl | rfl | rfl | rfl | rfl | hp
      · exact neN (by k_extra "n:c")
      · exact neN (by k_extra "n:c")
      · exact neN (by k_extra "n:c")
      · exact neN (by k_extra "n:c")
      · exact neN (by k_extra "n:c")
      · exact f4.symm
      · exact v4 p hp
    case hk => exact List.forall_mem_nil _
    case hp => exact ⟨d1', hod⟩
    case turn =>
      have hcI := Nat.ne_of_lt (Heap.lt_size (gN (L' + 1 + 1 + 1 + 1, o2) (by k_mem)).1)
      rintro i ⟨oh, hv, od'⟩ v oc u h7 tk7 oI E' hi ⟨t, rfl⟩ ⟨hP1, hP2⟩ hI hoc F' N' hE'
      clear gF gN
      dsimp only at hP1 hP2
      have i1 := hI (L' + 1 + 1 + 1 + 1 + 1, oh) (.head _)
      have i2 := hI (dd, od') (.tail _ (.tail _ (.head _)))
      refine' due_turn (pre := [_, _, _]) (tl := tl ++ [(_, oI)]) ?hb rfl rfl fB F' fX fT N' hoc hP1 ddue ddeep hi hls (Paired.mono' (fun l y ⟨D', e1, e2⟩ => ⟨D', e1, List.mem_append_left _ e2⟩) hrows) hP2 (Nat.le_trans (dueT_len _ _) (by omega)) (dueT_nodup _ (by omega)) (dueT_new hi) (dueT_known (dprAt_trans ls) hi) hsys ?o1 ?o2 (neN (by k_extra "n:c")) (neN (by k_extra "n:c")) (neN (by k_extra "n:c")) (neN (by k_extra "n:c")) (neN (by k_extra "n:c")) (neN (by k_extra "n:c")) f5 ?h
      case hb => (refine' Eq.trans ?e1 ?e2; (case e1 => k_is); (case e2 => rfl))
      case o1 =>
        intro p hp
        rcases List.mem_append.mp hp with hp | hp
        · exact v5 p hp
        · rw [List.mem_singleton.mp hp]; exact i1.symm
      case o2 =>
        intro p hp
        rcases List.mem_append.mp hp with hp | hp
        · exact q9 p hp
        · rw [List.mem_singleton.mp hp]; exact i2.symm
      case h =>
        intro h8 tk8 m8 oh8 hv8 od8 F8 hm8 dh8 N8 hod8
        show CEnd _ _ _ _ _ _ _ _ _ _ _ _
        refine CEnd.intro (oh8, hv8, od8) (.head _) hoc hcI (List.forall_mem_nil _) F8 N8 ?_ ?_ ?_ ?_ ⟨dh8, ?_⟩
        · intro p hp
          (try simp only [Led] at hp ⊢)
          revert p; k_extra "x:sub"
        · intro p hp
          rw [List.mem_singleton.mp hp]
          simp
        · intro p hp
          simp only [Led, List.mem_cons] at hp
          rcases hp with rfl | rfl | rfl | hp
          · exact i1
          · exact hI (L' + 1 + 1 + 1, odue) (.tail _ (.head _))
          · exact i2
          · exact hI p (by simp only [Led, List.mem_cons]; grind)
        · intro z _ hz
          have hz' := hz
          simp only [List.contains_eq_mem, List.mem_cons, List.not_mem_nil, or_false, decide_eq_false_iff_not, not_or] at hz'
          rw [hm8 z hz'.1 hz'.2]
          show (if _ then _ else _) = _
          rw [if_neg (by rw [hz]; decide)]
        · dsimp only
          rw [dueT_succ]
          exact hod8
    case done =>
      rintro ⟨oh, hv, od'⟩ oc ov u h7 tk7 ⟨hP1, hP2⟩ hoc F7 N7
      clear gF gN
      dsimp only at hP1 hP2 ⊢
      dsimp only [Led] at N7
      k_steps
      (rename Fr h₀ _ _ _ => kF); (rename News h₀ _ _ _ => kN)
      refine h dd od' _ _ kF (fun p hp => kN p ?_) hP2 hsys
      rcases List.mem_append.mp hp with hp | hp
      · have := hnews p hp
        simp only [List.mem_cons, List.mem_append]
        grind
      · rw [List.mem_singleton.mp hp]
        simp
theorem all_cut : ∀ w p loose mean mg mb A₀ base h₀ L m cn cs ca ccd cl outer gd s R news al lvs lk ls g' L' h' tk' o1 o2 o3 o4 o5 D h5 tk5 ys exs, Pcut w p loose mean mg mb A₀ base h₀ L m cn cs ca ccd cl outer gd s R news al lvs lk ls g' L' h' tk' o1 o2 o3 o4 o5 D h5 tk5 ys exs := by
  have h : Pcut w p loose mean mg mb A₀ base h₀ L m cn cs ca ccd cl outer gd s R news al lvs lk ls g' L' h' tk' o1 o2 o3 o4 o5 D h5 tk5 ys exs := at_cut
  delta w p loose mean mg mb A₀ base h₀ L m cn cs ca ccd cl outer gd s R news al lvs lk ls g' L' h' tk' o1 o2 o3 o4 o5 D h5 tk5 ys exs at h
  exact fun w p loose mean mg mb A₀ base h₀ L m cn cs ca ccd cl outer gd s R news al lvs lk ls g' L' h' tk' o1 o2 o3 o4 o5 D h5 tk5 ys exs => Classical.choose_spec ex_cut h ((w, p, loose, mean, mg, mb, A₀), (base, h₀, L, m, cn, cs, ca), (ccd, cl, outer, gd, s, R, news), (al, lvs, lk, ls, g', L', h'), (tk', o1, o2, o3, o4, o5, D), (h5, tk5, ys, exs))
end K_due_spec
theorem due_spec : type_of% (@Subtype.property _ _ K_due_spec.cut (no_implicit_lambda% K_due_spec.all_cut)) := no_implicit_lambda% (@Subtype.property _ _ K_due_spec.cut (no_implicit_lambda% K_due_spec.all_cut))
end Mine
end
section
open PySem PySem.W PyProof.Rows PySem.Spec PySem.Calls
set_option maxRecDepth 100000
namespace Mine
open Sem (wp)
open Builtin Builtin.Str
/-- the parts of a zip over two drawn iterators lie apart -/
structure ZApart (z TI TO i1 i2 : Addr) (fp1 fp2 : List Addr) : Prop where
  TIz : TI ≠ z
  TOz : TO ≠ z
  i1z : i1 ≠ z
  i2z : i2 ≠ z
  TITO : TI ≠ TO
  TIi1 : TI ≠ i1
  TIi2 : TI ≠ i2
  TOi1 : TO ≠ i1
  TOi2 : TO ≠ i2
  i12 : i1 ≠ i2
  z1 : z ∉ fp1
  z2 : z ∉ fp2
  t1 : TO ∉ fp1
  t2 : TO ∉ fp2
  a1 : i2 ∉ fp1
  a2 : i1 ∉ fp2
section
variable {prog : Program} {w : World} {A : Around} {E : Value → Shared → Prop} {s : Shared} {z TI TO i1 i2 : Addr} {fp1 fp2 : List Addr} {n k : Nat} {P1 P2 : Nat → Value → Prop} {St1 St2 : Nat → Heap → Prop} {a b : Value}
theorem drawn_on {i : Addr} {fp : List Addr} {St : Nat → Heap → Prop} {P : Nat → Value → Prop} {m : Nat} (D : Draws prog w A i fp m P St) {h h' : Heap} {j : Nat} {c : Addr} (st : St j h) (hc : c ∉ fp) (hs : Heap.ExtBut c h h') : St j h' :=
  D.frame _ _ _ st fun b hb o e => hs b o (fun q => hc (q ▸ hb)) e
theorem zd_item {m : Nat} {Q : Value → Shared → Prop} (Z : ZApart z TI TO i1 i2 fp1 fp2) (D1 : Draws prog w A i1 fp1 n P1 St1) (D2 : Draws prog w A i2 fp2 m P2 St2)
    (hz : IsZip s.heap z TI TO .none) (hTI : IsPair s.heap TI (.ref i1) (.ref i2)) (hTO : IsPair s.heap TO a b) (s1 : St1 k s.heap) (s2 : St2 k s.heap) (hk : k < n) (hm : k < m)
    (hQ : ∀ x y h' tk, P1 k x → P2 k y → IsZip h' z TI TO (rawInt s.heap.objs.size) → IsPair h' TO x y → St1 (k + 1) h' → St2 (k + 1) h' → IsPair h' s.heap.objs.size x y →
      (∀ c o, c ≠ z → c ≠ TO → c ≠ i1 → c ≠ i2 → s.heap.get? c = some o → h'.get? c = some o) → Q (.ref s.heap.objs.size) { s with heap := h', toks := tk }) :
    wpAny (model prog w) A (Builtin.«zip.__next__» ⟨[.ref z], []⟩) (fun fin s' => ∃ v, fin = .done (.ret v) ∧ Q v s') E s := by
  show wpAny _ _ (field (.ref z) 2 >>= _) _ _ _
  refine wpAny_bind (wpAny_field hz rfl (x := .bool false) rfl ?_)
  show wpAny _ _ (field (.ref z) 3 >>= _) _ _ _
  refine wpAny_bind (wpAny_field hz rfl (x := .ref TI) rfl ?_)
  refine wpAny_bind (wpAny_seqItems hTI rfl ?_)
  show wpAny _ _ (Builtin.SmallTypes.ownedTupleIsFree (.ref z) >>= _) _ _ _
  refine wpAny_bind ?_
  unfold Builtin.SmallTypes.ownedTupleIsFree
  refine wpAny_bind (wpAny_field hz rfl (x := .none) rfl (wpAny_pure ?_))
  simp only [if_true]
  refine wpAny_bind (wpAny_rule ?_)
  refine wpAny_bind (wpAny_field hz rfl (x := .ref TO) rfl ?_)
  refine wpAny_bind (wpAny_setField_rec hz (by simp) fun h₁ hz₁ hs₁ => ?_)
  replace hz₁ : IsZip h₁ z TI TO .ellipsis := hz₁
  refine wpAny_bind ?_
  simp only [List.zipIdx_cons, List.zipIdx_nil, List.forIn_cons, List.forIn_nil]
  refine wpAny_bind (wpAny_bind (wpAny_onRaise ?_))
  show wpAny _ _ (Builtin.SmallTypes.nextOf (.ref i1) >>= _) _ _ _
  refine wpAny_bind (D1.item k _ _ _ hk (drawn_on D1 s1 Z.z1 hs₁.extBut) fun x h₂ tk₂ hx s1₂ hs₂ => wpAny_pure ?_)
  have hTO₂ : IsPair h₂ TO a b := hs₂.extBut _ _ Z.TOi1 (hs₁.extBut _ _ Z.TOz hTO)
  refine wpAny_bind (wpAny_seqItems hTO₂ rfl ?_)
  refine wpAny_bind (wpAny_updateSeq_pair hTO₂ fun h₃ hTO₃ hs₃ => ?_)
  replace hTO₃ : IsPair h₃ TO x b := hTO₃
  refine wpAny_bind (wpAny_letGo (wpAny_pure ?_))
  refine wpAny_bind (wpAny_bind (wpAny_onRaise ?_))
  show wpAny _ _ (Builtin.SmallTypes.nextOf (.ref i2) >>= _) _ _ _
  refine wpAny_bind (D2.item k _ _ _ hm (drawn_on D2 (drawn_on D2 (drawn_on D2 s2 Z.z2 hs₁.extBut) Z.a2 hs₂.extBut) Z.t2 hs₃.extBut) fun y h₄ tk₄ hy s2₄ hs₄ => wpAny_pure ?_)
  have hTO₄ : IsPair h₄ TO x b := hs₄.extBut _ _ Z.TOi2 hTO₃
  refine wpAny_bind (wpAny_seqItems hTO₄ rfl ?_)
  refine wpAny_bind (wpAny_updateSeq_pair hTO₄ fun h₅ hTO₅ hs₅ => ?_)
  replace hTO₅ : IsPair h₅ TO x y := hTO₅
  refine wpAny_bind (wpAny_letGo (wpAny_pure (wpAny_pure ?_)))
  refine wpAny_bind (wpAny_seqItems hTO₅ rfl ?_)
  refine wpAny_bind (wpAny_newTuple ?_)
  have hsz : h₅.objs.size = s.heap.objs.size := by rw [hs₅.1, hs₄.1, hs₃.1, hs₂.1, hs₁.1]
  have hz₅ : IsZip h₅ z TI TO .ellipsis := hs₅.extBut _ _ Z.TOz.symm (hs₄.extBut _ _ Z.i2z.symm (hs₃.extBut _ _ Z.TOz.symm (hs₂.extBut _ _ Z.i1z.symm hz₁)))
  have hk₅ : ∀ c o, c ≠ z → c ≠ TO → c ≠ i1 → c ≠ i2 → s.heap.get? c = some o → h₅.get? c = some o := fun c o c1 c2 c3 c4 e =>
    hs₅.extBut _ _ c2 (hs₄.extBut _ _ c4 (hs₃.extBut _ _ c2 (hs₂.extBut _ _ c3 (hs₁.extBut _ _ c1 e))))
  have s1₅ : St1 (k + 1) h₅ := drawn_on D1 (drawn_on D1 (drawn_on D1 s1₂ Z.t1 hs₃.extBut) Z.a1 hs₄.extBut) Z.t1 hs₅.extBut
  have s2₅ : St2 (k + 1) h₅ := drawn_on D2 s2₄ Z.t2 hs₅.extBut
  have hzlt : z < h₅.objs.size := Heap.lt_size hz₅
  show wpAny _ _ (Builtin.SmallTypes.ownedTupleHandOut (.ref z) (.ref h₅.objs.size) >>= _) _ _ _
  refine wpAny_bind ?_
  unfold Builtin.SmallTypes.ownedTupleHandOut
  have hz₆ : IsZip (h₅.push { cls := .type "tuple", data := .seq #[x, y] }) z TI TO .ellipsis := Heap.get?_push_of_some _ hz₅
  refine wpAny_bind (wpAny_setField_rec hz₆ (by simp) fun h₇ hz₇ hs₇ => ?_)
  replace hz₇ : IsZip h₇ z TI TO (rawInt h₅.objs.size) := hz₇
  refine wpAny_setField_rec hz₇ (by simp) fun h₈ hz₈ hs₈ => ?_
  replace hz₈ : IsZip h₈ z TI TO (rawInt h₅.objs.size) := hz₈
  have up : ∀ c o, c ≠ z → h₅.get? c = some o → h₈.get? c = some o := fun c o c1 e => hs₈.extBut _ _ c1 (hs₇.extBut _ _ c1 (Heap.get?_push_of_some _ e))
  have hT₈ : IsPair h₈ h₅.objs.size x y := hs₈.extBut _ _ (Nat.ne_of_gt hzlt) (hs₇.extBut _ _ (Nat.ne_of_gt hzlt) (Heap.get?_push_size _ rfl))
  rw [hsz] at hz₈ hT₈
  refine wpAny_pure ⟨_, rfl, ?_⟩
  show Q (.ref h₅.objs.size) _
  rw [hsz]
  exact hQ x y h₈ _ hx hy hz₈ (up _ _ Z.TOz hTO₅) (drawn_on D1 s1₅ Z.z1 up) (drawn_on D2 s2₅ Z.z2 up) hT₈ fun c o c1 c2 c3 c4 e => up c o c1 (hk₅ c o c1 c2 c3 c4 e)
theorem zd_end {Q : Fin → Shared → Prop} (Z : ZApart z TI TO i1 i2 fp1 fp2) (D1 : Draws prog w A i1 fp1 n P1 St1)
    (hz : IsZip s.heap z TI TO .none) (hTI : IsPair s.heap TI (.ref i1) (.ref i2)) (hTO : IsPair s.heap TO a b) (s1 : St1 n s.heap)
    (hE : ∀ h' e, (∀ c o, c ≠ z → c ≠ TO → c ≠ i1 → c ≠ i2 → s.heap.get? c = some o → h'.get? c = some o) → (∃ o, h'.get? e = some o ∧ o.cls = .type "StopIteration") → E (.ref e) { s with heap := h' }) :
    wpAny (model prog w) A (Builtin.«zip.__next__» ⟨[.ref z], []⟩) Q E s := by
  show wpAny _ _ (field (.ref z) 2 >>= _) _ _ _
  refine wpAny_bind (wpAny_field hz rfl (x := .bool false) rfl ?_)
  show wpAny _ _ (field (.ref z) 3 >>= _) _ _ _
  refine wpAny_bind (wpAny_field hz rfl (x := .ref TI) rfl ?_)
  refine wpAny_bind (wpAny_seqItems hTI rfl ?_)
  show wpAny _ _ (Builtin.SmallTypes.ownedTupleIsFree (.ref z) >>= _) _ _ _
  refine wpAny_bind ?_
  unfold Builtin.SmallTypes.ownedTupleIsFree
  refine wpAny_bind (wpAny_field hz rfl (x := .none) rfl (wpAny_pure ?_))
  simp only [if_true]
  refine wpAny_bind (wpAny_rule ?_)
  refine wpAny_bind (wpAny_field hz rfl (x := .ref TO) rfl ?_)
  refine wpAny_bind (wpAny_setField_rec hz (by simp) fun h₁ hz₁ hs₁ => ?_)
  replace hz₁ : IsZip h₁ z TI TO .ellipsis := hz₁
  refine wpAny_bind ?_
  simp only [List.zipIdx_cons, List.zipIdx_nil, List.forIn_cons, List.forIn_nil]
  refine wpAny_bind (wpAny_bind (wpAny_onRaise ?_))
  show wpAny _ _ (Builtin.SmallTypes.nextOf (.ref i1) >>= _) _ _ _
  refine wpAny_bind (D1.done _ _ _ (drawn_on D1 s1 Z.z1 hs₁.extBut) fun h₂ e hs₂ he => ?_)
  obtain ⟨oe, hoe, hce⟩ := he
  have hz₂ : IsZip h₂ z TI TO .ellipsis := hs₂ _ _ Z.i1z.symm hz₁
  have hez : e ≠ z := fun x => by subst x; rw [hz₂] at hoe; cases hoe; simp at hce
  refine wpAny_setField_rec hz₂ (by simp) fun h₃ _ hs₃ => hE h₃ e (fun c o c1 _ c3 _ x => hs₃.extBut _ _ c1 (hs₂ _ _ c3 (hs₁.extBut _ _ c1 x))) ⟨oe, hs₃.extBut _ _ hez hoe, hce⟩
/-- zip over two drawn iterators, the first no longer than the second -/
theorem walksZD {m : Nat} (hh : A.handled = none) (Z : ZApart z TI TO i1 i2 fp1 fp2) (h1 : i1 ∈ fp1) (h2 : i2 ∈ fp2) (hnm : n ≤ m) (D1 : Draws prog w A.in1 i1 fp1 n P1 St1) (D2 : Draws prog w A.in1 i2 fp2 m P2 St2) :
    WalksT prog w A z (z :: TI :: TO :: (fp1 ++ fp2)) [z, TO, i1, i2] n (fun i vals => ∃ x y, P1 i x ∧ P2 i y ∧ vals = #[x, y])
      (fun i h => IsZip h z TI TO .none ∧ IsPair h TI (.ref i1) (.ref i2) ∧ (∃ a b, IsPair h TO a b) ∧ St1 i h ∧ St2 i h)
      (fun i T h => IsZip h z TI TO (rawInt T) ∧ IsPair h TI (.ref i1) (.ref i2) ∧ (∃ a b, IsPair h TO a b) ∧ St1 (i + 1) h ∧ St2 (i + 1) h ∧ T ≠ z ∧ T ≠ TO ∧ T ≠ i1 ∧ T ≠ i2) where
  sub := fun c hc => by
    simp only [List.mem_cons, List.not_mem_nil, or_false] at hc
    rcases hc with rfl | rfl | rfl | rfl <;> simp [h1, h2]
  frame := fun i h h' hst hk => by
    obtain ⟨hz, hTI, ⟨a, b, hTO⟩, s1, s2⟩ := hst
    exact ⟨hk z (by simp) _ hz, hk TI (by simp) _ hTI, ⟨a, b, hk TO (by simp) _ hTO⟩, D1.frame _ _ _ s1 fun b hb => hk b (by simp [hb]), D2.frame _ _ _ s2 fun b hb => hk b (by simp [hb])⟩
  item := fun i s Q E hi hst hQ => by
    obtain ⟨hz, hTI, ⟨a, b, hTO⟩, s1, s2⟩ := hst
    have hT : s.TypeIs (.ref z) "zip" := ⟨_, hz, rfl⟩
    have lt : ∀ {c o}, s.heap.get? c = some o → s.heap.objs.size ≠ c := fun e => Nat.ne_of_gt (Heap.lt_size e)
    unfold pyNext
    refine wpAny_bind (wpAny_attempt (wpAny_callSpecial?_slot (name := Str.ofString "__next__") hT F.slot_zip_next
      (wpAny_call_entry F.slot_zip_next hT F.entry_zip_next (zd_item Z D1 D2 hz hTI hTO s1 s2 hi (Nat.lt_of_lt_of_le hi hnm) fun x y h' tk hx hy b1 b2 b3 b4 b5 hk => wpAny_pure ?_) (F.args_zip_next_1 _))))
    obtain ⟨o1, e1⟩ := D1.live _ _ s1
    obtain ⟨o2, e2⟩ := D2.live _ _ s2
    refine hQ s.heap.objs.size #[x, y] h' tk ⟨x, y, hx, hy, rfl⟩ (Nat.le_refl _) ⟨_, b5, rfl, _, rfl⟩ ⟨b1, hk _ _ Z.TIz Z.TITO Z.TIi1 Z.TIi2 hTI, ⟨_, _, b2⟩, b3, b4, lt hz, lt hTO, lt e1, lt e2⟩ fun c o hc e => ?_
    exact hk c o (fun x => hc (by simp [x])) (fun x => hc (by simp [x])) (fun x => hc (by simp [x])) (fun x => hc (by simp [x])) e
  go := fun elts k pos i T s Q E hm hQ => by
    obtain ⟨hz, hTI, ⟨a, b, hTO⟩, s1, s2, _⟩ := hm
    refine wpAny_letOwnedTupleGo_zip hz fun h' hz' hs' => hQ h' ⟨hz', hs'.extBut _ _ Z.TIz hTI, ⟨a, b, hs'.extBut _ _ Z.TOz hTO⟩, drawn_on D1 s1 Z.z1 hs'.extBut, drawn_on D2 s2 Z.z2 hs'.extBut⟩ fun c o hc e => hs'.extBut _ _ (fun x => hc (by simp [x])) e
  apart := fun i T h hm hT => by
    obtain ⟨_, _, _, _, _, t1, t2, t3, t4⟩ := hm
    simp at hT
    rcases hT with rfl | rfl | rfl | rfl
    · exact t1 rfl
    · exact t2 rfl
    · exact t3 rfl
    · exact t4 rfl
  done := fun s Q E hst hQ => by
    obtain ⟨hz, hTI, ⟨a, b, hTO⟩, s1, s2⟩ := hst
    have hT : s.TypeIs (.ref z) "zip" := ⟨_, hz, rfl⟩
    unfold pyNext
    refine wpAny_bind (wpAny_attempt (wpAny_callSpecial?_slot (name := Str.ofString "__next__") hT F.slot_zip_next
      (wpAny_call_entry F.slot_zip_next hT F.entry_zip_next (zd_end Z D1 hz hTI hTO s1 fun h' e hk he => ?_) (F.args_zip_next_1 _))))
    obtain ⟨o, ho, hc⟩ := he
    refine wpAny_bind (wpAny_isInstance (T := "StopIteration") (b := true) ⟨o, ho, hc⟩ isSubtype_stop ?_)
    refine wpAny_pure (hQ _ _ fun c o hc e => ?_)
    exact hk c o (fun x => hc (by simp [x])) (fun x => hc (by simp [x])) (fun x => hc (by simp [x])) (fun x => hc (by simp [x])) e
  self := fun i s Q E hst hQ => wpAny_pyIter_zip hst.1 hQ
end
end Mine
end
section
open PySem PySem.W PyProof.Rows PySem.Spec PySem.Calls
set_option maxRecDepth 100000
namespace Mine
open Builtin Builtin.Str
noncomputable abbrev zlH1 (h : Heap) (l1 : Addr) : Heap := h.push { cls := .type "list_iterator", data := .fields #[.ref l1, .int 0 0] }
noncomputable abbrev zlH2 (h : Heap) (l1 : Addr) (x : Str) (t : Tok) : Heap := (zlH1 h l1).push { cls := .type "str_ascii_iterator", data := .fields #[.str x t, .int 0 0] }
noncomputable abbrev zlH3 (h : Heap) (l1 : Addr) (x : Str) (t : Tok) : Heap := (zlH2 h l1 x t).push { cls := .type "tuple", data := .seq #[.ref h.objs.size, .ref (zlH1 h l1).objs.size] }
noncomputable abbrev zlH4 (h : Heap) (l1 : Addr) (x : Str) (t : Tok) : Heap := (zlH3 h l1 x t).push { cls := .type "tuple", data := .seq #[.none, .none] }
noncomputable abbrev zlH5 (h : Heap) (l1 : Addr) (x : Str) (t : Tok) : Heap := (zlH4 h l1 x t).push { cls := .type "zip", data := .fields #[.none, .bool false, .bool false, .ref (zlH2 h l1 x t).objs.size, .ref (zlH3 h l1 x t).objs.size] }
set_option maxHeartbeats 2000000 in
theorem meets_zip_ls (l1 : Addr) (xs : Array Value) (x : Str) (t : Tok) (hx : x.cps.all (· < 128) = true) :
    Meets (Builtin.«zip.__new__» ⟨[.type "zip", .ref l1, .str x t], []⟩) (fun _ R s => s.heap.IsList l1 xs ∧ R (.ok (.ret (.ref (zlH4 s.heap l1 x t).objs.size))) { s with heap := zlH5 s.heap l1 x t }) :=
  .of_wp fun prog w A R s h => by
    obtain ⟨hp, g, d, tk, os⟩ := s; obtain ⟨hl1, h⟩ := h
    have hsub := sub_zip
    have hL1 : Heap.IsList (Shared.heap ⟨hp, g, d, tk, os⟩) l1 xs := hl1
    have hL2 : ∀ {A' : Around} {E' : Value → Shared → Prop} {Q : Value → Shared → Prop}, Q (.ref (zlH1 hp l1).objs.size) ⟨zlH2 hp l1 x t, g, d, tk, os⟩ → wpAny (model prog w) A' (pyIter (.str x t)) Q E' ⟨zlH1 hp l1, g, d, tk, os⟩ := fun hQ => wpAny_pyIter_ascii hx hQ
    repeat (first | with_reducible (first | refine wpAny_pyIter_list hL1 ?_ | refine hL2 ?_ | refine PySem.wpAny_pure ?_ | refine PySem.wpAny_bind ?_ | refine PySem.wpAny_holding ?_ | refine PySem.wpAny_alloc' ?_ | refine PySem.wpAny_of_eq (by assumption) ?_) | ((with_reducible apply PySem.wpAny_ite_false); focus (rfl; done)) | wp_delta)
    exact ⟨_, rfl, h⟩
section
variable {prog : Program} {w : World} {A : Around} {E : Value → Shared → Prop} {s : Shared} {h₀ : Heap} {L : Addr} {m : Str → Option Value} {env : Env}
inductive LcS.Src (prog : Program) (w : World) (A : Around) (h₀ : Heap) (L : Addr) (m : Str → Option Value) (env : Env) (elt : PySem.Expr) (x : Str) (scope : Scope) (cl : List (Str × Addr)) (Q : Value → Shared → Prop) (xv : Value) (s₁ : Shared) : Prop
  | mk (xt : Str) (tx : Tok) (news : List (Addr × Obj)) (V : Nat → Value → List (Addr × Obj) → Prop)
    (h0 : xv = .str xt tx)
    (h1 : A.handled = none)
    (h2 : Fr h₀ L s₁.heap m)
    (h3 : News h₀ L s₁.heap news)
    (h4 : xt.cps.size ≤ sizeLine)
    (h5 : (∀ k v I oI C oC D m₂ ys exs h tk E', k ∈ xt.cps.toList → (∃ t, v = Value.str ⟨#[k]⟩ t) → LCg.NsObj oC m₂ → m₂ x = some v → Own V xt.cps.toList news exs → Fr h₀ L h m → News h₀ L h ((I, oI) :: (C, oC) :: (D, LCg.lst ys) :: (exs ++ news)) → ElK prog w A h₀ L m s₁ elt (compEnvC scope cl C env) [(I, oI), (C, oC), (D, LCg.lst ys)] (exs ++ news) (V k) E' h tk))
    (h6 : (∀ D h' tk ys exs, Fr h₀ L h' m → News h₀ L h' ((D, LCg.lst ys) :: (exs ++ news)) → Own V xt.cps.toList news exs → Paired (VIn V exs) xt.cps.toList ys → (∀ p ∈ exs ++ news, @Ne Nat p.1 D) → Q (.ref D) { s₁ with heap := h', toks := tk }))
    : LcS.Src prog w A h₀ L m env elt x scope cl Q xv s₁
/-- a list comprehension over the signs of a text -/
theorem lcS {elt iter : PySem.Expr} {x : Str} {px : Pos} {scope : Scope} {cl : List (Str × Addr)} {pos : Pos} {Q : Value → Shared → Prop} (_F₀ : Fr h₀ L s.heap m)
    (hclos : closureFor scope env = pure cl) (hcell : ∀ y ∈ scope.names, y.2 ≠ .cell) (hkind : scope.kind = .function)
    (hnames : ∀ y ∈ scope.names, y.2 = .local → scope.names.lookup y.1 = some .local) (hx : scope.names.lookup x = some .local)
    (h : wpAny (model prog w) A (eval iter env) (LcS.Src prog w A h₀ L m env elt x scope cl Q) E s)
    (hs : ∀ x, foldedSetIterable iter env x = pure x := by intro _; rfl) :
    wpAny (model prog w) A (eval (.ListComp elt [⟨.Name x px, iter, [], 0⟩] scope pos) env) Q E s := by
  rw [eval_ListComp]
  refine wpAny_comprehension_free (use := none) rfl hs hclos hkind hnames (wpAny_mono h (fun xv s₁ h₁ => ?_) fun _ _ e => e)
  obtain ⟨xt, tx, news, V, rfl, hh, F, N, hsz, el, fin⟩ := h₁
  have off1 : ∀ (D : Addr) (l : List (Addr × Obj)), LCg.Off1 D l → ∀ p ∈ l, @Ne Nat p.1 D := by
    intro D l
    induction l with
    | nil => intro _ p hp; cases hp
    | cons a r ih =>
      intro hl p hp
      rcases List.mem_cons.mp hp with rfl | hp
      · exact hl.1
      · exact ih hl.2 p hp
  have key : ∀ (o : Obj) (St : Nat → Heap → Prop), Walks prog w A s₁.heap.objs.size [s₁.heap.objs.size] [s₁.heap.objs.size] xt.cps.size (SignAt xt) St → (∀ i h, St i h → ∃ o, h.get? s₁.heap.objs.size = some o) → (∀ i h h' o, St i h → h.get? s₁.heap.objs.size = some o → h'.get? s₁.heap.objs.size = some o → St i h') → St 0 (s₁.heap.push o) →
      wpAny (model prog w) A (newList []) (fun acc s₃ => wpAny (model prog w) A (newFunctionEnv scope env.globals cl [] env.qual none .none (some env)) (fun cenv s₄ =>
        codeAny (model prog w) A (.compStart (.ListComp elt [⟨.Name x px, iter, [], 0⟩] scope pos) 0 (.ref s₁.heap.objs.size) acc { cenv with scope := relabel scope env }) (compPost (model prog w) A E none Q acc cenv.locals) s₄) E s₃) E { s₁ with heap := s₁.heap.push o } := by
    intro o St W hob hSt hst
    have up : ∀ b o', s₁.heap.get? b = some o' → (s₁.heap.push o).get? b = some o' := fun b o' e => Heap.get?_push_of_some _ e
    refine LCg.block_U (S := fun _ => True) (Fin := LCg.FinE h₀ L m { s₁ with heap := s₁.heap.push o } Q) W hsz hob (fun i h h' o nw st e e' _ _ _ => hSt i h h' o st e e') hcell hkind hx hst (fun b hb => ?_) (F.keeps up) (N.grown up) (Nat.ne_of_lt F.ns.lt) (next_is_new F) (fun p hp => Nat.ne_of_lt (Heap.lt_size (N p hp).1)) trivial
      (restU_G (as := xt.cps.toList) (fun k v => ∃ t, v = Value.str ⟨#[k]⟩ t) V (by simp) (fun i v hi hv => ?_) (fun _ => trivial) (fun k v I oI C oC D m₂ ys exs h tk E' => el k v I oI C oC D m₂ ys exs h tk E') fun ys exs hsub hy D h' tk F' N' o1 => fin D h' tk ys exs F' N' hsub hy (off1 D _ o1)) ?_
    · rw [List.mem_singleton.mp hb]
      show s₁.heap.objs.size < (s₁.heap.push _).objs.size
      rw [Heap.size_push]; exact Nat.lt_succ_self _
    · obtain ⟨c, u, hc, rfl⟩ := hv
      exact ⟨c, by rw [Array.getElem?_toList]; exact hc, u, rfl⟩
    · intro D C h tk m' ys news' F' N' o1 hn hC₀ hD₀ hCL hDL hCD offC fin
      refine ⟨m', hn, fun h'' hs'' => fin D h'' tk (F'.change hs'' hCL hC₀) (fun p hp => ?_) o1⟩
      refine ⟨hs''.extBut _ _ ?_ (N' p hp).1, (N' p hp).2⟩
      rcases List.mem_cons.mp hp with rfl | hp
      · exact Ne.symm hCD
      · exact offC p hp
  cases ha : xt.cps.all (· < 128)
  · exact wpAny_pyIter_wide ha (key _ _ (Walks.strWide hh _ xt tx) (fun _ _ st => let ⟨o, ho, _⟩ := st; ⟨o, ho⟩) (fun i h h' o st e e' => by obtain ⟨o', q, r⟩ := st; rw [e] at q; cases q; exact ⟨o, e', r⟩) ⟨_, Heap.get?_push_size _ rfl, rfl, rfl⟩)
  · exact wpAny_pyIter_ascii ha (key _ _ (Walks.strAscii hh _ xt tx) (fun _ _ st => let ⟨o, ho, _⟩ := st; ⟨o, ho⟩) (fun i h h' o st e e' => by obtain ⟨o', q, r⟩ := st; rw [e] at q; cases q; exact ⟨o, e', r⟩) ⟨_, Heap.get?_push_size _ rfl, rfl, rfl⟩)
/-- zip of a list of the ledger and a text of plain signs, no shorter -/
theorem zipLS {a : Addr} {vs : List Value} {k : Nat} {xt : Str} {tx : Tok} {news : List (Addr × Obj)} {Q : Value → Shared → Prop} (hh : A.handled = none) (F : Fr h₀ L s.heap m) (N : News h₀ L s.heap news) (ha : (a, ({ cls := .type "list", data := .seq vs.toArray k } : Obj)) ∈ news) (hx : xt.cps.all (· < 128) = true) (hlen : vs.length ≤ xt.cps.size)
    (h : ∀ z h' fp wr St Mid, WalksT prog w A z fp wr vs.length (fun i vals => ∃ x y, vs[i]? = some x ∧ (∃ c u, xt.cps[i]? = some c ∧ y = .str ⟨#[c]⟩ u) ∧ vals = #[x, y]) St Mid → St 0 h' → (∀ b ∈ fp, b < h'.objs.size) → L ∉ fp → (∀ b ∈ wr, h₀.get? b = none) → (∀ p ∈ news, p.1 ∉ wr) → Fr h₀ L h' m → News h₀ L h' news → Q (.ref z) { s with heap := h' }) :
    wpAny (model prog w) A (call (.type "zip") [.ref a, .str xt tx]) Q E s := by
  have hl1 : s.heap.IsList a vs.toArray := ⟨_, (N _ ha).1, rfl, k, rfl⟩
  have ha1 : @LT.lt Nat _ a s.heap.objs.size := Heap.lt_size (N _ ha).1
  refine callType_new PySem.F.called_zip (by decide) (PySem.F.typeCall_zip_2 _ _) (PySem.F.newCall_zip_2 _ _) (fun obj => PySem.F.args_object_init_3 obj _ _) PySem.F.entry_zip_new (meets_zip_ls a vs.toArray xt tx hx) ⟨hl1, ?_⟩
  have z1 : (zlH1 s.heap a).objs.size = s.heap.objs.size + 1 := Heap.size_push ..
  have z2 : (zlH2 s.heap a xt tx).objs.size = s.heap.objs.size + 2 := by rw [Heap.size_push, z1]
  have z3 : (zlH3 s.heap a xt tx).objs.size = s.heap.objs.size + 3 := by rw [Heap.size_push, z2]
  have z4 : (zlH4 s.heap a xt tx).objs.size = s.heap.objs.size + 4 := by rw [Heap.size_push, z3]
  have z5 : (zlH5 s.heap a xt tx).objs.size = s.heap.objs.size + 5 := by rw [Heap.size_push, z4]
  have g5 : (zlH5 s.heap a xt tx).get? (zlH4 s.heap a xt tx).objs.size = some _ := Heap.get?_push_size _ rfl
  have g4 : (zlH5 s.heap a xt tx).get? (zlH3 s.heap a xt tx).objs.size = some _ := Heap.get?_push_of_some _ (Heap.get?_push_size _ rfl)
  have g3 : (zlH5 s.heap a xt tx).get? (zlH2 s.heap a xt tx).objs.size = some _ := Heap.get?_push_of_some _ (Heap.get?_push_of_some _ (Heap.get?_push_size _ rfl))
  have g2 : (zlH5 s.heap a xt tx).get? (zlH1 s.heap a).objs.size = some _ := Heap.get?_push_of_some _ (Heap.get?_push_of_some _ (Heap.get?_push_of_some _ (Heap.get?_push_size _ rfl)))
  have g1 : (zlH5 s.heap a xt tx).get? s.heap.objs.size = some _ := Heap.get?_push_of_some _ (Heap.get?_push_of_some _ (Heap.get?_push_of_some _ (Heap.get?_push_of_some _ (Heap.get?_push_size _ rfl))))
  have hk : ∀ c o, s.heap.get? c = some o → (zlH5 s.heap a xt tx).get? c = some o := fun c o x => Heap.get?_push_of_some _ (Heap.get?_push_of_some _ (Heap.get?_push_of_some _ (Heap.get?_push_of_some _ (Heap.get?_push_of_some _ x))))
  show _ ∧ _
  rw [z4]
  refine ⟨⟨_, z4 ▸ g5, rfl⟩, ?_⟩
  generalize zlH5 s.heap a xt tx = h' at *
  rw [z2, z3, z4] at g5
  rw [z1, z2] at g3
  rw [z3] at g4
  rw [z1] at g2
  clear z1 z2 z3 z4
  have fresh₀ : ∀ c : Nat, s.heap.objs.size ≤ c → h₀.get? c = none := fun c hc => by
    cases e : h₀.get? c with
    | none => rfl
    | some o' => exact absurd (Heap.lt_size (F.keep c o' e)) (Nat.not_lt.mpr hc)
  have hL : @LT.lt Nat _ L s.heap.objs.size := F.ns.lt
  have hnw : ∀ p ∈ news, @LT.lt Nat _ p.1 s.heap.objs.size := fun p hp => Heap.lt_size (N p hp).1
  have Z : ZApart (s.heap.objs.size + 4) (s.heap.objs.size + 2) (s.heap.objs.size + 3) s.heap.objs.size (s.heap.objs.size + 1) [s.heap.objs.size, a] [s.heap.objs.size + 1] := by
    revert ha1
    generalize s.heap.objs.size = n0
    intro ha1
    refine ⟨?_, ?_, ?_, ?_, ?_, ?_, ?_, ?_, ?_, ?_, ?_, ?_, ?_, ?_, ?_, ?_⟩ <;> first | exact neN (by k_extra "n:c") | (simp only [List.mem_cons, List.not_mem_nil, or_false, not_or]; first | exact neN (by k_extra "n:c") | exact ⟨neN (by k_extra "n:c"), neN (by k_extra "n:c")⟩)
  have W := walksZD (prog := prog) (w := w) (A := A) hh Z (by simp) (by simp) (by simpa using hlen) (Draws.list (A := A.in1) hh s.heap.objs.size a (Nat.ne_of_lt ha1) vs.toArray) (Draws.strAscii (A := A.in1) hh (s.heap.objs.size + 1) xt tx)
  have hPt : (fun (i : Nat) (vals : Array Value) => ∃ x y, vs.toArray[i]? = some x ∧ (∃ c u, xt.cps[i]? = some c ∧ y = Value.str ⟨#[c]⟩ u) ∧ vals = #[x, y]) = fun i vals => ∃ x y, vs[i]? = some x ∧ (∃ c u, xt.cps[i]? = some c ∧ y = Value.str ⟨#[c]⟩ u) ∧ vals = #[x, y] := by
    funext i vals
    simp only [List.getElem?_toArray]
  rw [hPt, List.size_toArray] at W
  refine h _ h' _ _ _ _ W ⟨g5, g3, ⟨_, _, g4⟩, ⟨⟨_, g1, rfl, rfl⟩, hl1.at fun o e => hk _ _ e⟩, ⟨_, g2, rfl, rfl⟩⟩ ?_ ?_ ?_ ?_ (F.keeps hk) (N.grown hk)
  · intro c hc
    replace hc : c ∈ [s.heap.objs.size + 4, s.heap.objs.size + 2, s.heap.objs.size + 3, s.heap.objs.size, a, s.heap.objs.size + 1] := hc
    rw [z5]
    simp only [List.mem_cons, List.not_mem_nil, or_false] at hc
    revert hc ha1
    generalize s.heap.objs.size = n0
    intro ha1 hc
    show @LT.lt Nat _ c (n0 + 5)
    rcases hc with e | e | e | e | e | e <;> (rw [e]; show @LT.lt Nat _ _ _; k_extra "n:c")
  · intro hc
    replace hc : L ∈ [s.heap.objs.size + 4, s.heap.objs.size + 2, s.heap.objs.size + 3, s.heap.objs.size, a, s.heap.objs.size + 1] := hc
    simp only [List.mem_cons, List.not_mem_nil, or_false] at hc
    have hLa := (N _ ha).2.1
    dsimp only at hLa
    revert hc hL
    generalize s.heap.objs.size = n0
    intro hL hc
    rcases hc with e | e | e | e | e | e
    · exact absurd e (neN (by k_extra "n:c"))
    · exact absurd e (neN (by k_extra "n:c"))
    · exact absurd e (neN (by k_extra "n:c"))
    · exact absurd e (neN (by k_extra "n:c"))
    · exact hLa e.symm
    · exact absurd e (neN (by k_extra "n:c"))
  · intro c hc
    replace hc : c ∈ [s.heap.objs.size + 4, s.heap.objs.size + 3, s.heap.objs.size, s.heap.objs.size + 1] := hc
    simp only [List.mem_cons, List.not_mem_nil, or_false] at hc
    revert hc fresh₀
    generalize s.heap.objs.size = n0
    intro fresh₀ hc
    refine fresh₀ c ?_
    rcases hc with e | e | e | e <;> (rw [e]; show @LE.le Nat _ _ _; k_extra "n:c")
  · intro p hp hc
    have hp1 := hnw p hp
    replace hc : p.1 ∈ [s.heap.objs.size + 4, s.heap.objs.size + 3, s.heap.objs.size, s.heap.objs.size + 1] := hc
    simp only [List.mem_cons, List.not_mem_nil, or_false] at hc
    revert hc hp1
    generalize s.heap.objs.size = n0
    intro hp1 hc
    rcases hc with e | e | e | e <;> exact absurd e (neN (by k_extra "n:c"))
end
end Mine
end
section
open PySem PySem.W PyProof.Rows PySem.Spec PySem.Calls
set_option maxRecDepth 100000
namespace Mine
theorem str_app (a b : List Nat) : ((⟨a.toArray⟩ : Str) ++ (⟨b.toArray⟩ : Str)) = ⟨(a ++ b).toArray⟩ := by
  show (⟨a.toArray ++ b.toArray⟩ : Str) = _
  rw [List.append_toArray]
theorem join_flat0 : ∀ ls : List (List Nat), Str.join (Str.ofString "") (ls.map fun l => (⟨l.toArray⟩ : Str)) = ⟨ls.flatten.toArray⟩ := by
  intro ls
  induction ls with
  | nil => rfl
  | cons x r ih =>
    cases r with
    | nil => simp [Str.join]
    | cons y r =>
      rw [List.map_cons] at ih
      simp only [List.map_cons, Str.join]
      rw [ih, show (⟨x.toArray⟩ : Str) ++ Str.ofString "" = ⟨x.toArray⟩ from by
        rw [show Str.ofString "" = (⟨([] : List Nat).toArray⟩ : Str) from by decide +kernel, str_app, List.append_nil], str_app]
      rfl
theorem join_flat (ls : List (List Nat)) : Txt.join (Str.ofString "") (ls.map fun l => (⟨l.toArray⟩ : Str)) = ⟨ls.flatten.toArray⟩ := by
  show Builtin.Str.glued (Str.ofString "") _ = _
  rw [StrLaws.glued_eq_join]
  exact join_flat0 ls
/-- the text of one lead and its name -/
noncomputable def piece (k : List Nat × Nat) : List Nat := (k.1.flatMap fun s => [92, s]) ++ [k.2, 10]
theorem piece_row {l : List Nat} {nm : Nat} (h : ∀ c ∈ l, c = 32 ∨ c = 9) (hn : nm ≠ 32 ∧ nm ≠ 9) : piece (l, nm) = rowText l nm := by
  unfold piece rowText rowc
  rw [List.flatMap_append, List.flatMap_singleton, show escc nm = [nm] from if_neg (by omega), List.append_assoc]
  congr 1
  induction l with
  | nil => rfl
  | cons a r ih =>
    rw [List.flatMap_cons, List.flatMap_cons, ih fun c hc => h c (List.mem_cons_of_mem _ hc), show escc a = [92, a] from if_pos (h a List.mem_cons_self)]
theorem pieces_text {z : Five} (ha : ∀ c ∈ z.a, c = 32 ∨ c = 9) (hb : ∀ c ∈ z.b, c = 32 ∨ c = 9) (hc : ∀ c ∈ z.c, c = 32 ∨ c = 9) (hd : ∀ c ∈ z.d, c = 32 ∨ c = 9) (he : ∀ c ∈ z.e, c = 32 ∨ c = 9) :
    (([(z.a, 97), (z.b, 98), (z.c, 99), (z.d, 100), (z.e, 101)] : List (List Nat × Nat)).map piece).flatten = textOf z := by
  simp only [List.map_cons, List.map_nil, List.flatten_cons, List.flatten_nil]
  rw [piece_row ha (by decide), piece_row hb (by decide), piece_row hc (by decide), piece_row hd (by decide), piece_row he (by decide)]
  rfl
theorem piece_len (k : List Nat × Nat) : (piece k).length = 2 * k.1.length + 2 := by
  unfold piece
  rw [List.length_append]
  have : ∀ l : List Nat, (l.flatMap fun s => [92, s]).length = 2 * l.length := fun l => by
    induction l with
    | nil => rfl
    | cons a r ih => rw [List.flatMap_cons, List.length_append, ih]; simp; omega
  rw [this]
  rfl
theorem strs_map {α : Type} {f : α → List Nat} : ∀ {as : List α} {ys : List Value}, Paired (fun k y => ∃ t, y = Value.str ⟨(f k).toArray⟩ t) as ys → StrsAre ys ((as.map f).map fun l => (⟨l.toArray⟩ : Str)) := by
  intro as ys r
  induction r with
  | nil => exact .nil
  | cons h _ ih => obtain ⟨t, e⟩ := h; rw [e]; exact .cons _ t ih
theorem piece_join (l : List Nat) : Txt.join (Str.ofString "") ((l.map fun s => [92, s]).map fun l => (⟨l.toArray⟩ : Str)) = ⟨(l.flatMap fun s => [92, s]).toArray⟩ := by
  rw [join_flat]
  rfl
theorem sum_le {M : Nat} : ∀ {ss : List Str}, (∀ x ∈ ss, x.length ≤ M) → (ss.map (·.length)).sum ≤ M * ss.length := by
  intro ss
  induction ss with
  | nil => intro _; exact Nat.zero_le _
  | cons a r ih =>
    intro h
    have ih := ih fun x hx => h x (List.mem_cons_of_mem _ hx)
    have ha := h a List.mem_cons_self
    rw [List.map_cons, List.sum_cons, List.length_cons, Nat.mul_succ, Nat.add_comm]
    exact Nat.add_le_add ih ha
theorem wt_flat {α : Type} {f : α → List Nat} {as : List α} (hf : ∀ a ∈ as, (f a).length ≤ 30) (hl : as.length ≤ 10) : ((((as.map f).map fun l => (⟨l.toArray⟩ : Str)).map (·.length)).sum + ((as.map f).map fun l => (⟨l.toArray⟩ : Str)).length) ≤ 1048576 := by
  have := sum_le (M := 30) (ss := (as.map f).map fun l => (⟨l.toArray⟩ : Str)) fun x hx => by
    obtain ⟨l, hl, rfl⟩ := List.mem_map.mp hx
    obtain ⟨a, ha, rfl⟩ := List.mem_map.mp hl
    show (f a).toArray.size ≤ 30
    rw [List.size_toArray]
    exact hf a ha
  rw [List.length_map, List.length_map] at *
  omega
theorem len_str (l : List Nat) : (⟨l.toArray⟩ : Str).length = l.length := by
  show l.toArray.size = _
  rw [List.size_toArray]
theorem len_flat (l : List Nat) : (l.flatMap fun s => [92, s]).length = 2 * l.length := by
  induction l with
  | nil => rfl
  | cons a r ih => rw [List.flatMap_cons, List.length_append, ih]; simp; omega
theorem piece_end (k : List Nat × Nat) : (⟨((k.1.flatMap fun s => [92, s]) ++ [k.2]).toArray⟩ : Str) ++ Str.ofString "\n" = ⟨(piece k).toArray⟩ := by
  rw [show Str.ofString "\n" = (⟨[10].toArray⟩ : Str) from by decide +kernel, str_app, List.append_assoc]
  rfl
end Mine
end
section
open PySem PySem.W PyProof.Rows PySem.Spec PySem.Calls PyProof.Rows.LSm
set_option maxRecDepth 100000
namespace Mine
open Plain (Wd)
namespace Plain
theorem good2_leads {v0 v1 v2 v3 : Nat} (h0 : v0 < 24) (h1 : v1 < 24) (h2 : v2 < 24) (h3 : v3 < 24) : good2 (relV v0 v1 v2 v3) = true := by
  have h := plain2 (lessL v0 v1) (lessL v0 v2) (lessL v0 v3) (lessL v1 v0) (lessL v1 v2) (lessL v1 v3) (lessL v2 v0) (lessL v2 v1) (lessL v2 v3) (lessL v3 v0) (lessL v3 v1) (lessL v3 v2)
  have o := ord_relV h0 h1 h2 h3
  unfold relV at o
  unfold fine2 at h
  rw [o] at h
  exact h
theorem relV_out {v0 v1 v2 v3 : Nat} : ∀ i j : Nat, ¬(i < 5 ∧ j < 5) → relV v0 v1 v2 v3 i j = false := by
  intro i j h
  by_cases hi : i < 5
  · have hj : 5 ≤ j := Nat.not_lt.mp fun hj => h ⟨hi, hj⟩
    rw [← Nat.sub_add_cancel hj]
    exact five (P := fun i => relV v0 v1 v2 v3 i (j - 5 + 5) = false) rfl rfl rfl rfl rfl i hi
  · rw [← Nat.sub_add_cancel (Nat.not_lt.mp hi)]
    rfl
end Plain
/-- the five leads of four numbers -/
noncomputable abbrev fiveV (a b c d : Nat) : Five := ⟨Plain.leadL a, Plain.leadL b, Plain.leadL c, Plain.leadL d, Plain.leadL 24⟩
noncomputable abbrev leadsV (a b c d : Nat) : List (List Nat) := [Plain.leadL a, Plain.leadL b, Plain.leadL c, Plain.leadL d, Plain.leadL 24]
theorem fiveV_at (a b c d : Nat) : ∀ i : Nat, (fiveV a b c d).at i = if i < 5 then some (Plain.leadL (Plain.vAt a b c d i)) else none := by
  exact five_out (P := fun i => (fiveV a b c d).at i = if i < 5 then some (Plain.leadL (Plain.vAt a b c d i)) else none) (five rfl rfl rfl rfl rfl) fun i => (if_neg (Nat.not_lt.mpr (Nat.le_add_left 5 i))).symm
theorem leadsV_at (a b c d : Nat) : ∀ i : Nat, (leadsV a b c d)[i]? = if i < 5 then some (Plain.leadL (Plain.vAt a b c d i)) else none := by
  exact five_out (P := fun i => (leadsV a b c d)[i]? = if i < 5 then some (Plain.leadL (Plain.vAt a b c d i)) else none) (five rfl rfl rfl rfl rfl) fun i => (if_neg (Nat.not_lt.mpr (Nat.le_add_left 5 i))).symm
theorem relZ_eq {a b c d : Nat} (ha : a < 24) (hb : b < 24) (hc : c < 24) (hd : d < 24) : relZ (fiveV a b c d) = Plain.relV a b c d := by
  funext i j
  unfold relZ
  rw [fiveV_at, fiveV_at]
  by_cases hi : i < 5
  · by_cases hj : j < 5
    · rw [if_pos hi, if_pos hj, Plain.relV_eq ha hb hc hd i hi j hj]
      rfl
    · rw [if_pos hi, if_neg hj, Plain.relV_out i j (fun h => hj h.2)]
  · rw [if_neg hi, Plain.relV_out i j (fun h => hi h.1)]
theorem vAt_lt5 {a b c d : Nat} (ha : a < 24) (hb : b < 24) (hc : c < 24) (hd : d < 24) : ∀ i < 5, Plain.vAt a b c d i < 25 := by
  exact five (P := fun i => Plain.vAt a b c d i < 25) (Nat.lt_succ_of_lt ha) (Nat.lt_succ_of_lt hb) (Nat.lt_succ_of_lt hc) (Nat.lt_succ_of_lt hd) (Nat.lt_succ_self 24)
theorem dprAt_eq {a b c d : Nat} (ha : a < 24) (hb : b < 24) (hc : c < 24) (hd : d < 24) : dprAt (leadsV a b c d) = Plain.relV a b c d := by
  funext i j
  unfold dprAt
  rw [leadsV_at, leadsV_at]
  by_cases hi : i < 5
  · by_cases hj : j < 5
    · rw [if_pos hi, if_pos hj, Plain.relV_eq ha hb hc hd i hi j hj, Plain.less_deeper _ (vAt_lt5 ha hb hc hd i hi) _ (vAt_lt5 ha hb hc hd j hj)]
      rfl
    · rw [if_pos hi, if_neg hj, Plain.relV_out i j (fun h => hj h.2)]
  · rw [if_neg hi, Plain.relV_out i j (fun h => hi h.1)]
/-- what the book and the table of four numbers tell -/
structure Told (b : List (Wd × List Wd)) (t : List (Wd × Bool)) : Prop where
  len : b.length + 1 = t.length
  nil : Plain.look [] t = some false
  new : ∀ e ∈ b, e.1 ≠ []
  nod : (b.map (·.1)).Nodup
  sml : ∀ e ∈ b, e.1.length ≤ 5
  val : ∀ e ∈ b, Plain.look e.1 t = some (!(e.2.all fun l => Plain.look l t == some true))
  few : ∀ e ∈ b, e.2.length ≤ 5
  low : ∀ e ∈ b, ∀ l ∈ e.2, l = [] ∨ ((∃ u ∈ b, u.1 = l) ∧ l.length < e.1.length)
theorem nodup_of : ∀ {l : List Wd}, Plain.nodupB l = true → l.Nodup := by
  intro l
  induction l with
  | nil => exact fun _ => List.nodup_nil
  | cons w r ih =>
    intro h
    unfold Plain.nodupB at h
    rw [Bool.and_eq_true] at h
    rw [List.nodup_cons]
    refine ⟨fun hm => ?_, ih h.2⟩
    have h1 := h.1
    rw [show (r.any fun u => u == w) = true from List.any_eq_true.mpr ⟨w, hm, by simp⟩] at h1
    cases h1
theorem told_of {b : List (Wd × List Wd)} {t : List (Wd × Bool)} (h : Plain.told b t = true) : Told b t := by
  unfold Plain.told at h
  simp only [Bool.and_eq_true, beq_iff_eq, List.all_eq_true, bne_iff_ne, ne_eq, Bool.or_eq_true, List.any_eq_true] at h
  obtain ⟨⟨⟨h1, h2⟩, h4⟩, h3⟩ := h
  refine ⟨h1, h2, fun e he => (h3 e he).1.1.1.1, nodup_of h4, fun e he => Nat.le_of_ble_eq_true (h3 e he).1.1.1.2, fun e he => ?_, fun e he => Nat.le_of_ble_eq_true (h3 e he).1.2, fun e he l hl => ?_⟩
  · exact (h3 e he).1.1.2
  · rcases (h3 e he).2 l hl with h | ⟨h, h4⟩
    · exact .inl h
    · exact .inr ⟨h, Nat.le_of_ble_eq_true h4⟩
theorem told_leads {a b c d : Nat} (ha : a < 24) (hb : b < 24) (hc : c < 24) (hd : d < 24) :
    (Plain.run (relZ (fiveV a b c d)) 31 Plain.start).queue = [] ∧ Told (Plain.run (relZ (fiveV a b c d)) 31 Plain.start).book (Plain.dueOf (dprAt (leadsV a b c d))) := by
  have h := Plain.good2_leads ha hb hc hd
  unfold Plain.good2 at h
  rw [Bool.and_eq_true] at h
  rw [relZ_eq ha hb hc hd, dprAt_eq ha hb hc hd]
  exact ⟨by simpa using h.1, told_of h.2⟩
/-- won after some of the words: each with what the table says -/
noncomputable abbrev tabW (t : List (Wd × Bool)) (ws : List Wd) : List (Wd × Bool) := ([], false) :: ws.map fun w => (w, Plain.look w t == some true)
theorem tabW_len (t : List (Wd × Bool)) (ws : List Wd) : (tabW t ws).length = ws.length + 1 := by simp [tabW]
theorem tabW_keys (t : List (Wd × Bool)) (ws : List Wd) : (tabW t ws).map (·.1) = [] :: ws := by
  simp [tabW, Function.comp_def]
theorem tabW_snoc (t : List (Wd × Bool)) (ws : List Wd) (w : Wd) : tabW t (ws ++ [w]) = tabW t ws ++ [(w, Plain.look w t == some true)] := by simp [tabW]
theorem tabW_look {t : List (Wd × Bool)} (h0 : Plain.look [] t = some false) {ws : List Wd} {l : Wd} (h : l = [] ∨ l ∈ ws) : Plain.look l (tabW t ws) = some (Plain.look l t == some true) := by
  unfold Plain.look tabW
  rw [List.find?_cons]
  by_cases hl : l = []
  · subst hl
    simp only [beq_self_eq_true]
    rw [show Option.map (fun x : Wd × Bool => x.2) (List.find? (fun e : Wd × Bool => e.1 == []) t) = some false from h0]
    rfl
  · have hw : l ∈ ws := h.resolve_left hl
    have e : ((([] : Wd), false).1 == l) = false := by simpa using fun q : [] = l => hl q.symm
    rw [e]
    clear h e
    induction ws with
    | nil => cases hw
    | cons w ws ih =>
      rw [List.map_cons, List.find?_cons]
      by_cases hwl : w = l
      · subst hwl
        simp only [beq_self_eq_true]
        rfl
      · have e : ((w, Option.map (fun x : Wd × Bool => x.2) (List.find? (fun e : Wd × Bool => e.1 == w) t) == some true).1 == l) = false := by simp [hwl]
        rw [e]
        exact ih ((List.mem_cons.mp hw).resolve_left (Ne.symm hwl))
/-- the words in any order by length -/
structure Ordered (b : List (Wd × List Wd)) (ws : List Wd) : Prop where
  perm : ws.Perm (b.map (·.1))
  sort : ws.Pairwise fun x y => x.length ≤ y.length
theorem ordered_low {b : List (Wd × List Wd)} {t : List (Wd × Bool)} (T : Told b t) {ws : List Wd} (O : Ordered b ws) {i : Nat} {e : Wd × List Wd} (hi : ws[i]? = some e.1) (he : e ∈ b) : ∀ l ∈ e.2, l = [] ∨ l ∈ ws.take i := by
  intro l hl
  rcases T.low e he l hl with h | ⟨⟨u, hu, rfl⟩, h2⟩
  · exact .inl h
  · right
    have hm : u.1 ∈ ws := O.perm.mem_iff.mpr (List.mem_map.mpr ⟨u, hu, rfl⟩)
    obtain ⟨j, hj, hje⟩ := List.mem_iff_getElem.mp hm
    obtain ⟨hi2, hie⟩ := List.getElem?_eq_some_iff.mp hi
    have hji : j < i := by
      apply Classical.byContradiction
      intro hn
      rcases Nat.lt_or_eq_of_le (Nat.le_of_not_lt hn) with h | h
      · have := List.pairwise_iff_getElem.mp O.sort i j hi2 hj h
        rw [hie, hje] at this
        omega
      · subst h
        rw [hie] at hje
        rw [hje] at h2
        omega
    rw [List.mem_take_iff_getElem]
    exact ⟨j, by omega, hje⟩
theorem ordered_val {b : List (Wd × List Wd)} {t : List (Wd × Bool)} (T : Told b t) {e : Wd × List Wd} (he : e ∈ b) : (Plain.look e.1 t == some true) = !(e.2.all fun l => Plain.look l t == some true) := by
  rw [T.val e he]
  cases (e.2.all fun l => Plain.look l t == some true) <;> rfl
/-- all the words done: the table itself -/
theorem ordered_done {b : List (Wd × List Wd)} {t : List (Wd × Bool)} (T : Told b t) {ws : List Wd} (O : Ordered b ws) : (tabW t ws).length = t.length ∧ ∀ e ∈ tabW t ws, Plain.look e.1 t = some e.2 := by
  refine ⟨?_, fun e he => ?_⟩
  · rw [tabW_len, O.perm.length_eq, List.length_map, T.len]
  · rcases List.mem_cons.mp he with rfl | he
    · exact T.nil
    · obtain ⟨w, hw, rfl⟩ := List.mem_map.mp he
      obtain ⟨u, hu, rfl⟩ := List.mem_map.mp (O.perm.mem_iff.mp hw)
      dsimp only
      rw [T.val u hu]
      cases (u.2.all fun l => Plain.look l t == some true) <;> rfl
theorem unW_eq (w : Wd) : (wdS w).cps.toList.map (fun c => c - 97) = w := by
  show ((wdL w).toArray.toList).map _ = w
  rw [List.toList_toArray]
  unfold wdL
  rw [List.map_map]
  conv => rhs; rw [← List.map_id w]
  refine List.map_congr_left fun k _ => ?_
  simp
theorem wdS_length (w : Wd) : (wdS w).length = w.length := by
  show (wdL w).toArray.size = w.length
  simp [wdL]
/-- the words behind the texts of a sorted list -/
theorem ordered_of {b : List (Wd × List Wd)} {ks : List Str} (hp : ks.Perm ((b.map (·.1)).map wdS)) (hs : ks.Pairwise fun x y => x.length ≤ y.length) : ∃ ws, ks = ws.map wdS ∧ Ordered b ws := by
  have hk : ks = (ks.map fun s : Str => s.cps.toList.map (fun c => c - 97)).map wdS := by
    rw [List.map_map]
    conv => lhs; rw [← List.map_id ks]
    refine List.map_congr_left fun k hk => ?_
    obtain ⟨w, _, rfl⟩ := List.mem_map.mp (hp.mem_iff.mp hk)
    show wdS w = wdS ((wdS w).cps.toList.map (fun c => c - 97))
    rw [unW_eq]
  refine ⟨_, hk, ?_, ?_⟩
  · have h1 := hp.map fun s : Str => s.cps.toList.map (fun c => c - 97)
    rw [List.map_map, show ((fun s : Str => s.cps.toList.map (fun c => c - 97)) ∘ wdS) = id from funext unW_eq, List.map_id] at h1
    exact h1
  · rw [hk, List.pairwise_map] at hs
    exact hs.imp fun {x y} h => by rwa [wdS_length, wdS_length] at h
theorem ordered_nodup {b : List (Wd × List Wd)} {t : List (Wd × Bool)} (T : Told b t) {ws : List Wd} (O : Ordered b ws) : ws.Nodup := O.perm.nodup_iff.mpr T.nod
theorem tabW_nodup {b : List (Wd × List Wd)} {t : List (Wd × Bool)} (T : Told b t) {ws : List Wd} (O : Ordered b ws) (i : Nat) : ((tabW t (ws.take i)).map (·.1)).Nodup := by
  rw [tabW_keys, List.nodup_cons]
  refine ⟨fun hm => ?_, (ordered_nodup T O).sublist (List.take_sublist _ _)⟩
  obtain ⟨u, hu, e⟩ := List.mem_map.mp (O.perm.mem_iff.mp (List.mem_of_mem_take hm))
  exact T.new u hu e
theorem tabW_fresh {b : List (Wd × List Wd)} {t : List (Wd × Bool)} (T : Told b t) {ws : List Wd} (O : Ordered b ws) {i : Nat} {w : Wd} (hi : ws[i]? = some w) : w ∉ (tabW t (ws.take i)).map (·.1) := by
  obtain ⟨hlt, he⟩ := List.getElem?_eq_some_iff.mp hi
  rw [tabW_keys]
  intro hm
  rcases List.mem_cons.mp hm with e | hm
  · obtain ⟨u, hu, e2⟩ := List.mem_map.mp (O.perm.mem_iff.mp (List.mem_of_getElem? hi))
    exact T.new u hu (e2.trans e)
  · obtain ⟨j, hj, hje⟩ := List.mem_iff_getElem.mp hm
    rw [List.getElem_take] at hje
    rw [List.length_take] at hj
    have h2 := List.pairwise_iff_getElem.mp (ordered_nodup T O) j i (by omega) hlt (by omega)
    exact h2 (hje.trans he.symm)
end Mine
end
section
open PySem PySem.W PyProof.Rows PySem.Spec PySem.Calls
set_option maxRecDepth 100000
namespace Mine
theorem strs_of_at : ∀ {vs : List Value} {ys : List Str}, vs.length = ys.length → (∀ (j : Nat) (v : Value), vs[j]? = some v → ∃ x t, ys[j]? = some x ∧ v = .str x t) → StrsAre vs ys := by
  intro vs
  induction vs with
  | nil => intro ys h _; obtain rfl := List.eq_nil_of_length_eq_zero h.symm; exact .nil
  | cons v vs ih =>
    intro ys h g
    cases ys with
    | nil => exact (Nat.succ_ne_zero _ h).elim
    | cons y ys =>
      obtain ⟨x, t, e, rfl⟩ := g 0 v rfl
      cases e
      exact .cons _ t (ih (Nat.succ.inj h) fun j u hu => g (j + 1) u hu)
/-- the text of a value -/
noncomputable def txtOf : Value → Str
  | .str x _ => x
  | _ => Str.empty
theorem strs_txt : ∀ {vs : List Value} {ys : List Str}, StrsAre vs ys → vs.map txtOf = ys := by
  intro vs ys h
  induction h with
  | nil => rfl
  | cons y u _ ih => rw [List.map_cons, ih]; rfl
theorem strs_at : ∀ {vs : List Value} {ys : List Str}, StrsAre vs ys → ∀ {j : Nat} {v : Value}, vs[j]? = some v → ∃ x t, ys[j]? = some x ∧ v = .str x t := by
  intro vs ys h
  induction h with
  | nil => intro j v h; simp at h
  | cons y u _ ih =>
    intro j v h
    cases j with
    | zero => exact ⟨y, u, rfl, (Option.some.inj h).symm⟩
    | succ j => exact ih h
theorem strs_len : ∀ {vs : List Value} {ys : List Str}, StrsAre vs ys → vs.length = ys.length := by
  intro vs ys h
  induction h with
  | nil => rfl
  | cons _ _ _ ih => exact congrArg (· + 1) ih
theorem strs_all : ∀ {vs : List Value}, (∀ v ∈ vs, ∃ x t, v = .str x t) → StrsAre vs (vs.map txtOf) := by
  intro vs
  induction vs with
  | nil => exact fun _ => .nil
  | cons v vs ih =>
    intro h
    obtain ⟨x, t, rfl⟩ := h v (.head _)
    exact .cons x t (ih fun u hu => h u (.tail _ hu))
theorem strs_mem {vs : List Value} {ys : List Str} (h : StrsAre vs ys) : ∀ v ∈ vs, ∃ x t, v = .str x t := fun v hv => by
  obtain ⟨j, hj, rfl⟩ := List.mem_iff_getElem.mp hv
  obtain ⟨x, t, _, e⟩ := strs_at h (List.getElem?_eq_getElem hj)
  exact ⟨x, t, e⟩
theorem sorted_strs {vs out : List Value} {ks : List Str} (h : StrsAre vs ks) (o : KskOut false (ks.map fun x => (x.length : Int)) vs out) :
    ∃ ks', StrsAre out ks' ∧ ks'.Perm ks ∧ ks'.Pairwise fun x y => x.length ≤ y.length := by
  obtain ⟨ps, hp, rfl, hs⟩ := o
  have hl : ((ks.map fun x => (x.length : Int))).length = vs.length := by rw [List.length_map, strs_len h]
  have hrel : ∀ p ∈ ps, p.1 = ((txtOf p.2).length : Int) ∧ p.2 ∈ vs := by
    intro p hq
    have hq2 := hp.mem_iff.mp hq
    rw [← strs_txt h, List.map_map, List.zip_map_left] at hq2
    obtain ⟨⟨u, v⟩, hz, rfl⟩ := List.mem_map.mp hq2
    have hz1 : u = v ∧ u ∈ vs := by
      obtain ⟨i, hi, e⟩ := List.mem_iff_getElem.mp hz
      rw [List.getElem_zip] at e
      injection e with e1 e2
      subst e1 e2
      exact ⟨rfl, List.getElem_mem _⟩
    exact ⟨by show ((txtOf u).length : Int) = ((txtOf v).length : Int); rw [hz1.1], by rw [← hz1.1]; exact hz1.2⟩
  refine ⟨(ps.map Prod.snd).map txtOf, strs_all fun v hv => ?_, ?_, ?_⟩
  · obtain ⟨p, hp', rfl⟩ := List.mem_map.mp hv
    exact strs_mem h _ (hrel p hp').2
  · have h1 := (hp.map Prod.snd).map txtOf
    rw [List.map_snd_zip (Nat.le_of_eq hl.symm), strs_txt h] at h1
    exact h1
  · rw [List.pairwise_map, List.pairwise_map]
    refine hs.imp_of_mem fun {p q} hp' hq' hr => ?_
    have hr' : p.1 ≤ q.1 := by simpa using hr
    rw [(hrel p hp').1, (hrel q hq').1] at hr'
    exact Int.ofNat_le.mp hr'
section
variable {prog : Program} {w : World} {A : Around} {E : Value → Shared → Prop} {s : Shared} {h₀ : Heap} {L : Addr} {m : Str → Option Value} {news : List (Addr × Obj)} {Q : Value → Shared → Prop}
/-- sorted(d, key=len) of a dict whose keys are texts -/
theorem sorted_dict {d : Addr} {o : Obj} {kvs : List (Str × Value)} (hh : A.handled = none) (hd : (d == sysModules) = false) (F : Fr h₀ L s.heap m) (N : News h₀ L s.heap news) (hm : (d, o) ∈ news)
    (hdo : o.IsDictOf (PySem.strKind prog w) kvs) (h64 : kvs.length < 64) (hz : ∀ k ∈ kvs.map Prod.fst, (k.length : Int) < 9223372036854775808)
    (h : ∀ D h' tk out c ks, Fr h₀ L h' m → News h₀ L h' ((D, listOf (List.toArray out) c) :: news) → (∀ q ∈ news, q.1 < D) → StrsAre out ks → ks.Perm (kvs.map Prod.fst) → (ks.Pairwise fun x y => x.length ≤ y.length) → Q (.ref D) { s with heap := h', toks := tk }) :
    wpAny (model prog w) A (call (.builtin "sorted") [.ref d] [(Str.ofString "key", .builtin "len")]) Q E s := by
  have hdd : s.heap.DictOf (PySem.strKind prog w) d kvs := Heap.dictOf_iff.mpr ⟨o, (N _ hm).1, hdo⟩
  obtain ⟨ep, hat⟩ := hdd.dictAt
  have hn : kvs.length ≤ sizeLine := by rw [sizeLine_eq]; omega
  refine call_function_entry_kw kind_sorted plain_sorted entry_sorted (ksk_s1 _ _) ?_
  unfold Builtin.«sorted»
  refine wpAny_bind (m := checkCount "sorted" 1 1 _) (wpAny_pure ?_)
  refine wpAny_bind (kdu_collect (A := A.in1) (kdl_dict (knd := PySem.strKind prog w) (kvs := kvs) (ep := ep) hd) hh hat hn fun h1 tk1 acc hk hacc => ?_)
  have hl : acc.toList.length = kvs.length := by rw [Array.length_toList]; exact hacc.1
  have hS : StrsAre acc.toList (kvs.map Prod.fst) := strs_of_at (by rw [hl, List.length_map]) fun j v hv => by
    obtain ⟨k, x, hx, hk⟩ := hacc.2 j v (by rw [← Array.getElem?_toList]; exact hv)
    obtain ⟨u, e⟩ := Value.isStrOf_shape hk
    exact ⟨k, u, by rw [List.getElem?_map, hx]; rfl, e⟩
  refine wpAny_bind (wpAny_newList ?_ (by rw [hl]; exact hn))
  have F1 := F.kept hk
  have N1 := News.grown N hk
  have keep : ∀ b o, h1.get? b = some o → (h1.push (seqObj "list" acc.toList.toArray 0)).get? b = some o := fun b o e => Heap.get?_push_of_some _ e
  have hoL : (h1.push (seqObj "list" acc.toList.toArray 0)).get? h1.objs.size = some (seqObj "list" acc.toList.toArray 0) := Heap.get?_push_size _ rfl
  have hL : L < h1.objs.size := F1.ns.lt
  show wpAny _ _ _ _ _ { s with heap := h1.push (seqObj "list" acc.toList.toArray 0), toks := tk1 }
  refine wpAny_bind (wpAny_holding (wpAny_call_entry_kw slot_list_sort ⟨_, hoL, rfl⟩ entry_list_sort ?body (ksk_l1 _ _)))
  case body =>
    show wpAny (model prog w) A.in1.in1 (Builtin.«list.sort» ⟨[.ref h1.objs.size], [(Str.ofString "key", .builtin "len")]⟩) _ _ _
    rw [ksk_t4]
    refine ksk_sort (s := { s with heap := h1.push (seqObj "list" acc.toList.toArray 0), toks := tk1 }) (kz := (kvs.map Prod.fst).map fun x => (x.length : Int))
      (F1.kept keep) (News.grown N1 keep) hoL (Nat.ne_of_gt hL) (Heap.get?_none_of_le (Nat.le_trans F1.above (Nat.le_of_lt hL)))
      (fun p hp => Nat.ne_of_lt (Heap.lt_size (N1 p hp).1)) (by rw [List.length_map, List.length_map, hl]) (by rw [hl]; exact h64) (fun i v k hv hkz h2 tk2 own F2 N2 => ?_) fun h' tk out c F' N' k' => ⟨_, rfl, ?_⟩
    · obtain ⟨x, t, hx, rfl⟩ := strs_at hS hv
      rw [List.getElem?_map, hx] at hkz
      cases hkz
      exact P.len_str (Int.not_le.mpr (hz x (List.mem_of_getElem? hx))) (KskEnd.intro F2 N2 fun p hp => hp)
    · obtain ⟨ks, a1, a2, a3⟩ := sorted_strs hS k'
      refine wpAny_pure ⟨_, rfl, h _ h' tk out.toList c ks F' ?_ (fun q hq => Heap.lt_size (N1 q hq).1) a1 a2 a3⟩
      rw [Array.toArray_toList]
      exact N'
end
end Mine
end
section
open PySem PySem.W PyProof.Rows PySem.Spec
namespace Mine
section
variable {prog : Program} {w : World} {A : Around} {E : Value → Shared → Prop} {s : Shared} {env : Env} {h₀ : Heap} {x : Str} {body : List Stmt} {Q : Flow → Shared → Prop}
theorem iter_listJ {ax : Addr} {vs : List Value} {k : Nat} {m₀ : Str → Option Value} {news nx₀ : List (Addr × Obj)} (J : Nat → (Str → Option Value) → List (Addr × Obj) → Prop)
    (hh : A.handled = none) (F : Fr h₀ env.locals s.heap m₀) (N : News h₀ env.locals s.heap news) (hm : (ax, W.listOf vs.toArray k) ∈ news) (hl : ∀ p ∈ nx₀, p ∈ news) (hj : J 0 m₀ nx₀)
    (turn : ∀ i v m₁ news₁ h tk own I oI, vs[i]? = some v → J i m₁ news₁ → (∀ p ∈ news₁, p.1 ≠ I) → (I, oI) ∈ own → (∀ p ∈ own, p.1 = I ∨ p.1 = ax) → Fr h₀ env.locals h (fun y => if y = x then some v else m₁ y) → News h₀ env.locals h (news₁ ++ own) →
      wpAny (model prog w) A (execs body env) (JPost h₀ env.locals (J (i + 1)) own I { s with heap := h, toks := tk } Q) E { s with heap := h, toks := tk })
    (done : ∀ m₁ news₁ h tk, J vs.length m₁ news₁ → Fr h₀ env.locals h m₁ → News h₀ env.locals h news₁ → Q .next { s with heap := h, toks := tk }) :
    wpAny (model prog w) A (pyIter (.ref ax)) (fun it s₂ => LoopAtV prog w A h₀ env x body Q E it s₂) E s := by
  have hlist : s.heap.IsList ax vs.toArray := ⟨_, (N _ hm).1, rfl, k, rfl⟩
  have hlt : ax < s.heap.objs.size := Heap.lt_size (N _ hm).1
  refine wpAny_pyIter_list hlist ?_
  have W := Walks.list (prog := prog) (w := w) hh s.heap.objs.size ax (Nat.ne_of_lt hlt) vs.toArray
  refine loop_J J W (.head _) (next_is_new F) (fun i h st => ?_) ?_ ?_ ?_ (F.push _) (fun p hp => ⟨Heap.get?_push_of_some _ (N p (hl p hp)).1, (N p (hl p hp)).2⟩) hj ?_ ?_
  · obtain ⟨o, ho, _⟩ := st.1
    exact ⟨o, ho⟩
  · intro hmm
    rcases List.mem_cons.mp hmm with e | e
    · exact absurd F.ns.lt (e ▸ Nat.lt_irrefl _)
    · exact (N _ hm).2.1 (List.mem_singleton.mp e).symm
  · intro p hp hI
    exact absurd (Heap.lt_size (N p (hl p hp)).1) (hI ▸ Nat.lt_irrefl _)
  · exact ⟨⟨_, Heap.get?_push_size _ rfl, rfl, rfl⟩, _, Heap.get?_push_of_some _ (N _ hm).1, rfl, k, rfl⟩
  · rintro i v m₁ nx h tk own oI hi hv hJ hn ho hw F₁ N₁
    refine turn i v m₁ nx h tk own _ oI (by simpa using hv) hJ hn ho (fun p hp => ?_) F₁ N₁
    rcases List.mem_cons.mp (hw p hp) with e | e
    · exact .inl e
    · exact .inr (List.mem_singleton.mp e)
  · intro m₁ nx h tk hJ F₁ N₁
    exact done m₁ nx h tk (by simpa using hJ) F₁ N₁
/-- the loop over a list of the ledger, its name a local, by a word over its whole state -/
theorem iter_listS {σ : Type} {ax : Addr} {vs : List Value} {k : Nat} {m₀ : Str → Option Value} {news : List (Addr × Obj)} (Led : σ → List (Addr × Obj)) (P : Nat → σ → Prop) (c₀ : σ)
    (hh : A.handled = none) (F : Fr h₀ env.locals s.heap m₀) (N : News h₀ env.locals s.heap news) (hm : (ax, W.listOf vs.toArray k) ∈ news) (hl : ∀ p ∈ Led c₀, p ∈ news) (hp : P 0 c₀)
    (turn : ∀ i (c : σ) v h tk own I oI, vs[i]? = some v → P i c → (∀ p ∈ Led c, p.1 ≠ I) → (I, oI) ∈ own → (∀ p ∈ own, p.1 = I ∨ p.1 = ax) → Fr h₀ env.locals h (fun y => if y = x then some v else m₀ y) → News h₀ env.locals h (Led c ++ own) →
      wpAny (model prog w) A (execs body env) (SPost h₀ env.locals Led (fun _ => []) x [] m₀ (P (i + 1)) own I { s with heap := h, toks := tk } Q) E { s with heap := h, toks := tk })
    (done : ∀ (c : σ) (u : Str → Option Value) h tk, P vs.length c → Fr h₀ env.locals h (fun y => if y = x then u y else m₀ y) → News h₀ env.locals h (Led c) → Q .next { s with heap := h, toks := tk }) :
    wpAny (model prog w) A (pyIter (.ref ax)) (fun it s₂ => LoopAtV prog w A h₀ env x body Q E it s₂) E s := by
  refine iter_listJ (fun i m nx => ∃ c, nx = Led c ∧ (∀ z, z ≠ x → m z = m₀ z) ∧ P i c) hh F N hm hl ⟨c₀, rfl, fun _ _ => rfl, hp⟩ ?_ ?_
  · rintro i v m₁ nx h tk own I oI hv ⟨c, rfl, h2, hP⟩ hI hmem hw F₁ N₁
    have em : (fun y => if y = x then some v else m₁ y) = fun y => if y = x then some v else m₀ y := map_none h2
    rw [em] at F₁
    refine wpAny_mono (turn i c v h tk own I oI hv hP hI hmem hw F₁ N₁) (fun f s₂ q => ?_) fun _ _ e => e
    have up : SEnd h₀ env.locals Led (fun _ => []) x [] m₀ (P (i + 1)) own I { s with heap := h, toks := tk } s₂ → JEnd h₀ env.locals (fun m nx => ∃ c, nx = Led c ∧ (∀ z, z ≠ x → m z = m₀ z) ∧ P (i + 1) c) own I { s with heap := h, toks := tk } s₂ := by
      rintro ⟨h', tk', m', c', e, F', N', hI', a1, a2, a3⟩
      exact ⟨h', tk', m', Led c', e, F', N', hI', c', rfl, fun z hz => a2 z hz (fun p hp => nomatch hp) rfl, a3⟩
    cases f with
    | ret v => exact q
    | brk => exact q
    | next => exact up q
    | cont => exact up q
  · rintro m₁ nx h tk ⟨c, rfl, h2, hP⟩ F₁ N₁
    rw [← done_none h2] at F₁
    exact done c m₁ h tk hP F₁ N₁
end
end Mine
end
section
open PySem PySem.W PyProof.Rows PySem.Spec PySem.Calls PyProof.Rows.LSm
set_option maxRecDepth 100000
namespace Mine
open Plain (Wd)
theorem look_some_mem {w : Wd} {t : List (Wd × Bool)} {b : Bool} (h : Plain.look w t = some b) : w ∈ t.map (·.1) := by
  unfold Plain.look at h
  obtain ⟨e, he, _⟩ := Option.map_eq_some_iff.mp h
  have h1 := List.mem_of_find?_eq_some he
  have h2 := List.find?_some he
  exact List.mem_map.mpr ⟨e, h1, by simpa using h2⟩
theorem eq_bools {A : Around} {s : Shared} (b : Bool) : SeqAt.EqAt A s (.bool b) (.bool b) true := by
  have h := SeqAt.EqAt.bool_bool (A := A) (s := s) b b
  simpa using h
theorem due_hits {A : Around} {s : Shared} {t : List (Wd × Bool)} (hn : (t.map (·.1)).Nodup) : ∀ {ka : List (Wd × Bool)}, (∀ e ∈ ka, Plain.look e.1 t = some e.2) → KeqHits A s (dueK t) (dueK ka) true := by
  intro ka
  induction ka with
  | nil => exact fun _ => .nil
  | cons e r ih =>
    intro h
    have h1 := h e (.head _)
    have hv := due_look hn (look_some_mem h1)
    rw [h1] at hv
    have e2 : (some e.2 == some true) = e.2 := by cases e.2 <;> rfl
    rw [e2] at hv
    exact KeqHits.hit (e := true) (b := true) hv (eq_bools _) (ih fun u hu => h u (.tail _ hu))
section
variable {prog : Program} {w : World} {A : Around} {E : Value → Shared → Prop} {s : Shared} {h₀ : Heap} {L : Addr} {news : List (Addr × Obj)} {Q : Value → Shared → Prop}
/-- two dicts of the words' truths are equal -/
theorem due_eq {a b : Addr} {oa ob : Obj} {ta tb : List (Wd × Bool)} (N : News h₀ L s.heap news) (ma : (a, oa) ∈ news) (mb : (b, ob) ∈ news) (ha : (a == sysModules) = false) (hb : (b == sysModules) = false)
    (da : oa.IsDictOf (PySem.strKind prog w) (dueK ta)) (db : ob.IsDictOf (PySem.strKind prog w) (dueK tb)) (hu : A.units < cLine) (hn : (tb.map (·.1)).Nodup) (hl : ta.length = tb.length) (hk : ∀ e ∈ ta, Plain.look e.1 tb = some e.2) (h : Q (.bool true) s) :
    wpAny (model prog w) A (compareOp .Eq (.ref a) (.ref b)) Q E s := by
  refine keq_eq (r := true) ha hb (Heap.dictOf_iff.mpr ⟨oa, (N _ ma).1, da⟩) (Heap.dictOf_iff.mpr ⟨ob, (N _ mb).1, db⟩) hu (fun _ => due_hits hn hk) ?_
  rw [Bool.and_true, List.length_map, List.length_map, hl, beq_self_eq_true]
  exact h
end
end Mine
end
section
local macro_rules | `(tactic| walk_at "none") => `(tactic| skip)
theorem Mine.off_W47 : True := by (w_top off; trivial)
open PySem PySem.W PyProof.Rows PySem.Spec PySem.Calls PyProof.Rows.LSm
set_option maxRecDepth 100000
namespace Mine
open Plain (Wd)
def held_W47_1 : List String := "exec Assign cons ListComp;eval ListComp;Exists;Src;call builtin:all;call builtin:str.join;call builtin:sorted;setItem ref str;compareOp Eq ref ref;call type:zip;exec For Name Call cons nil;eval Dict;subscriptTail;binaryOp Mult str int;binaryOp Add str str".splitOn ";"
local macro_rules | `(tactic| walk_at $s:str) => if held_W47_1.contains s.getString then `(tactic| (k_here; refine hold ?_)) else Lean.Macro.throwUnsupported
local macro_rules | `(tactic| walk_at "And") => `(tactic| ((with_reducible show _ ∧ (∃ _, _)); refine hold ?_))
local macro_rules | `(tactic| walk_at "call ref") => `(tactic| (k_here; (try dsimp only [List.cons_append, List.nil_append, List.append_nil]); refine hold ?_))
theorem ints_at : ∀ {us : List Value} {zs : List Int}, IntsAre us zs → ∀ {i : Nat} {y : Value}, us[i]? = some y → ∃ z t, zs[i]? = some z ∧ y = .int z t := by
  intro us zs h
  induction h with
  | nil => intro i y h; simp at h
  | cons z t _ ih =>
    intro i y h
    cases i with
    | zero => exact ⟨z, t, rfl, (Option.some.inj h).symm⟩
    | succ i => exact ih h
theorem ints_len : ∀ {us : List Value} {zs : List Int}, IntsAre us zs → us.length = zs.length := by
  intro us zs h
  induction h with
  | nil => rfl
  | cons _ _ _ ih => exact congrArg (· + 1) ih
theorem nums_of {as : List (Int × Int)} {ys : List Value} (hl : as.length = 4) (h : Paired (fun k y => ∃ t, y = Value.int ((k.1 + k.2).fmod 24) t) as ys) :
    ∃ a b c d : Nat, (a < 24 ∧ b < 24 ∧ c < 24 ∧ d < 24) ∧ ∃ ta tb tc td, ys = [.int (a : Int) ta, .int (b : Int) tb, .int (c : Int) tc, .int (d : Int) td] := by
  have key : ∀ x : Int, ∃ n : Nat, n < 24 ∧ x.fmod 24 = (n : Int) := fun x => by
    have h1 : 0 ≤ x.fmod 24 := Int.fmod_nonneg_of_pos x (by decide)
    have h2 : x.fmod 24 < 24 := Int.fmod_lt_of_pos x (by decide)
    exact ⟨(x.fmod 24).toNat, by omega, by omega⟩
  have key2 : ∀ {k : Int × Int} {y : Value}, (∃ t, y = Value.int ((k.1 + k.2).fmod 24) t) → ∃ (n : Nat) (t : Tok), n < 24 ∧ y = .int (n : Int) t := fun {k y} h => by
    obtain ⟨t, rfl⟩ := h
    obtain ⟨n, hn, e⟩ := key (k.1 + k.2)
    exact ⟨n, t, hn, congrArg (Value.int · t) e⟩
  cases h with
  | nil => cases hl
  | cons h0 h => cases h with
    | nil => cases hl
    | cons h1 h => cases h with
      | nil => cases hl
      | cons h2 h => cases h with
        | nil => cases hl
        | cons h3 h => cases h with
          | cons _ _ => cases hl
          | nil =>
            obtain ⟨a, ta, ha, rfl⟩ := key2 h0
            obtain ⟨b, tb, hb, rfl⟩ := key2 h1
            obtain ⟨c, tc, hc, rfl⟩ := key2 h2
            obtain ⟨d, td, hd, rfl⟩ := key2 h3
            exact ⟨a, b, c, d, ⟨ha, hb, hc, hd⟩, ta, tb, tc, td, rfl⟩
theorem leads5 {a b c d : Nat} {ys : List Value} {u : Tok} (h : Paired (fun k v => ∃ t, v = Value.str ⟨(Plain.leadL k).toArray⟩ t) [a, b, c, d] ys) :
    Paired (fun (l : List Nat) v => ∃ t, v = Value.str ⟨l.toArray⟩ t) [Plain.leadL a, Plain.leadL b, Plain.leadL c, Plain.leadL d, Plain.leadL 24] (ys ++ [.str (Str.ofString "\t\t\t    ") u]) := by
  show Paired _ ([a, b, c, d].map Plain.leadL ++ [Plain.leadL 24]) _
  refine Paired.snoc (paired_map (V := fun (l : List Nat) v => ∃ t, v = Value.str ⟨l.toArray⟩ t) h) ⟨u, congrArg (Value.str · u) ?_⟩
  decide +kernel
/-- what is added to the four bases -/
noncomputable def more4 (zs : List Int) : List Int := zs.take 4 ++ [0, 0, 0, 0]
noncomputable def base4 : List Int := [3, 1, 13, 7]
theorem paired_of_strs : ∀ {ls : List Wd} {vs : List Value}, StrsAre vs (ls.map wdS) → Paired (fun w v => ∃ t, v = Value.str (wdS w) t) ls vs := by
  intro ls
  induction ls with
  | nil => intro vs h; cases h; exact .nil
  | cons w r ih =>
    intro vs h
    cases h with
    | cons _ t h => exact .cons ⟨t, rfl⟩ (ih h)
/-- nothing else lies at a cell -/
theorem off_cell {h₀ h : Heap} {L c : Addr} {news : List (Addr × Obj)} {oc : Obj} {cv : Option Value} (N : News h₀ L h news) (hc : (c, oc) ∈ news) (hd : oc.data = .cell cv) : ∀ p ∈ news, (∀ v, p.2.data ≠ .cell v) → p.1 ≠ c := by
  intro p hp hv e
  have h1 := (N p hp).1
  rw [e, (N _ hc).1] at h1
  exact hv cv (by rw [← Option.some.inj h1]; exact hd)

theorem le1 : ∀ k : Nat, k < 24 → -(2 ^ 63 : Int) ≤ ((k : Int).fdiv 12 * if 1 < (k : Int).fmod 3 then 1 else (k : Int).fmod 3) ∧ ((k : Int).fdiv 12 * if 1 < (k : Int).fmod 3 then 1 else (k : Int).fmod 3) ≤ ((1048576 : Nat) : Int) := by decide +kernel
theorem le2 : ∀ k : Nat, k < 24 → -(2 ^ 63 : Int) ≤ (k : Int).fmod 3 ∧ (k : Int).fmod 3 ≤ ((1048576 : Nat) : Int) := by decide +kernel
theorem le3 : ∀ k : Nat, k < 24 → -(2 ^ 63 : Int) ≤ ((k : Int).fdiv 3).fmod 4 ∧ ((k : Int).fdiv 3).fmod 4 ≤ ((1048576 : Nat) : Int) := by decide +kernel
theorem le4 : ∀ k : Nat, k < 24 → (Txt.mul (Str.ofString " ") ((k : Int).fdiv 12 * if 1 < (k : Int).fmod 3 then 1 else (k : Int).fmod 3)).length + (Txt.mul (Str.ofString "\t") ((k : Int).fmod 3)).length ≤ sizeLine := fun k hk =>
  Nat.le_trans ((by decide +kernel : ∀ k : Nat, k < 24 → (Txt.mul (Str.ofString " ") ((k : Int).fdiv 12 * if 1 < (k : Int).fmod 3 then 1 else (k : Int).fmod 3)).length + (Txt.mul (Str.ofString "\t") ((k : Int).fmod 3)).length ≤ 100) k hk) (by rw [sizeLine_eq]; exact Nat.le_of_ble_eq_true rfl)
theorem le5 : ∀ k : Nat, k < 24 → (Txt.mul (Str.ofString " ") ((k : Int).fdiv 12 * if 1 < (k : Int).fmod 3 then 1 else (k : Int).fmod 3) ++ Txt.mul (Str.ofString "\t") ((k : Int).fmod 3)).length + (Txt.mul (Str.ofString " ") (((k : Int).fdiv 3).fmod 4)).length ≤ sizeLine := fun k hk =>
  Nat.le_trans ((by decide +kernel : ∀ k : Nat, k < 24 → (Txt.mul (Str.ofString " ") ((k : Int).fdiv 12 * if 1 < (k : Int).fmod 3 then 1 else (k : Int).fmod 3) ++ Txt.mul (Str.ofString "\t") ((k : Int).fmod 3)).length + (Txt.mul (Str.ofString " ") (((k : Int).fdiv 3).fmod 4)).length ≤ 100) k hk) (by rw [sizeLine_eq]; exact Nat.le_of_ble_eq_true rfl)
theorem le6 : ∀ k : Nat, k < 24 → Txt.mul (Str.ofString " ") ((k : Int).fdiv 12 * if 1 < (k : Int).fmod 3 then 1 else (k : Int).fmod 3) ++ Txt.mul (Str.ofString "\t") ((k : Int).fmod 3) ++ Txt.mul (Str.ofString " ") (((k : Int).fdiv 3).fmod 4) = ⟨(Plain.leadL k).toArray⟩ := by decide +kernel
namespace K_top1
set_option maxHeartbeats 8000000 in
noncomputable def cut : (@Subtype (Prop) fun P => P → PySem.Challenge.rw_pg0196_01.Holds) := by
  refine' mkCut fun hole0 => ?_
  rotate_left
  focus
  refine hd ?_
  k_go0
  all_goals try k_fold
  k_steps
  unfold Hold
  (rename Fr _ _ _ _ => gF); (rename News _ _ _ _ => gN); (rename Below _ _ _ _ => fB); (rename Frag.In _ _ => fX); (rename Top _ _ _ _ _ _ => fT)
  (rename Shared => s₁); (rename World => w0)
  obtain ⟨q138, q145⟩ : @LT.lt Nat _ 138 _ ∧ @LT.lt Nat _ 145 _ := by assumption
  have gF2 := gF
  k_dflt (refine' lcZA (α := Int × Int) gF2 ?hLe ?hsw ?hyz ?hpz ?hclosz ?hcellz ?hkindz ?hnamesz ?hxz ?hx2z ?hxxz ?_)
  case hLe => rfl
  case hsw => rfl
  case hyz => rfl
  case hpz => rfl
  case hclosz => with_unfolding_all rfl
  case hcellz => decide
  case hkindz => rfl
  case hnamesz => decide
  case hxz => rfl
  case hx2z => rfl
  case hxxz => decide
  k_steps
  unfold Hold
  rename_i D1 ws1 h1 F1 N1 hI1 l1
  obtain ⟨zs, hI1⟩ : ∃ zs : List Int, IntsAre ws1 (more4 zs) := ⟨_, hI1⟩
  k_dflt (refine' zipK (by rfl) F1 N1 ?hza ?hzb ?_)
  case hza => k_mem
  case hzb => k_mem
  intro z2 h2 fp2 wr2 St2 Mid2 W2 hst2 hfp2 hLf2 hwr2 hnw2 F2 N2
  clear F1 N1
  have hn2 : (base4.zip (more4 zs)).length = min 4 ws1.length := by
    rw [List.length_zip, ← ints_len hI1]
    rfl
  refine ⟨z2, fp2, wr2, _, _, St2, Mid2, _, base4.zip (more4 zs), fun k v1 v2 => ∃ ta tb, v1 = .int k.1 ta ∧ v2 = .int k.2 tb, fun k y => ∃ t, y = .int ((k.1 + k.2).fmod 24) t, rfl, rfl, W2, hst2, hfp2, hLf2, hwr2, hnw2, F2, N2, hn2, ?zs, ?pt, ?elz, ?finz⟩
  case zs => exact Nat.le_trans (Nat.min_le_left _ _) (by rw [sizeLine_eq]; exact Nat.le_of_ble_eq_true rfl)
  case pt =>
    rintro i vals hi ⟨x, y, hx, hy, rfl⟩
    obtain ⟨z, t, hz, rfl⟩ := ints_at hI1 hy
    cases i with
    | zero => cases hx; exact ⟨(3, z), _, _, List.getElem?_zip_eq_some.mpr ⟨rfl, hz⟩, rfl, _, _, rfl, rfl⟩
    | succ i => cases i with
      | zero => cases hx; exact ⟨(1, z), _, _, List.getElem?_zip_eq_some.mpr ⟨rfl, hz⟩, rfl, _, _, rfl, rfl⟩
      | succ i => cases i with
        | zero => cases hx; exact ⟨(13, z), _, _, List.getElem?_zip_eq_some.mpr ⟨rfl, hz⟩, rfl, _, _, rfl, rfl⟩
        | succ i => cases i with
          | zero => cases hx; exact ⟨(7, z), _, _, List.getElem?_zip_eq_some.mpr ⟨rfl, hz⟩, rfl, _, _, rfl, rfl⟩
          | succ i => first | cases hx | simp at hx
  case elz =>
    rintro k v1 v2 C3 oC3 D3 m3 ys3 own3 h9 tk9 E3 hk3 ⟨ta, tb, rfl, rfl⟩ hC3 hx3 hx32 F10 N10
    clear F2 N2
    walk1
    walk1
    walk1
    walk1
    walk1
    walk1
    walk1
    exact ⟨⟨_, rfl⟩, _, _, rfl, F10, N10⟩
  case finz =>
    intro D3 h9 tk9 ys3 F10 N10 hp3 hlt3
    obtain ⟨a, b, c, d, ⟨ha, hb, hc, hd⟩, ta, tb, tc, td, rfl⟩ := nums_of (by rw [hn2]; have := ints_len hI1; unfold more4 at this; rw [List.length_append] at this; simp at this; omega) hp3
    clear F2 N2 hn2 hI1 hp3 W2 hst2
    rename_i v_1 v_2 v_3 i_4 i_5 v_6 v_7 v_8 v_9 v_10 i_11 i_12 i_13 i_14 i_15 i_16 i_17 i_18 i_19 v_20 i_21 i_22 i_23 i_24 i_25 v_26 v_27 v_28 v_29 v_30 i_31 i_32 i_33 i_34 i_35 i_36 i_37 i_38 i_39 v_40 v_41 v_42 i_43 i_44 i_45 i_46 v_47 v_48 i_49 v_50 v_51 v_52 i_53 i_54 i_55 i_56 v_57 v_58 i_59 v_60 v_61 i_62 v_63 i_64 i_65 i_66 i_67 i_68
    revert i_4 i_5 i_11 i_12 i_13 hT8 i_14 i_15 i_16 i_17 i_18 i_19 hT9 i_21 i_22 i_23 i_24 i_25 i_31 i_32 i_33 i_34 i_35 i_36 i_37 i_38 i_39 i_43 i_44 fX fT fB lifted i_45 codeHd i_46 q138 q145 i_49 i_53 i_54 i_55 i_56 i_59 i_62 i_64 i_65 i_66 i_67 i_68 hI1 l1 hfp2 hLf2 hwr2 hnw2 F10 hlt3 ha hb hc hd N10
    revert w0 v_1 s₁ v_2 v_3 v_6 v_7 v_8 v_9 v_10 v_20 v_26 v_27 v_28 v_29 v_30 v_40 v_41 v_42 v_47 v_48 v_50 v_51 v_52 v_57 v_58 v_60 v_61 v_63 D1 ws1 h1 zs z2 h2 fp2 wr2 St2 Mid2 D3 h9 tk9 a b c d ta tb tc td
    exact no_implicit_lambda% hole0.get
noncomputable section
noncomputable def Pcut : (World) → (Shared) → (Shared) → (Str → Option Value) → (Str → Option Value) → (Addr) → (Obj) → (Value) → (Value) → (Value) → (List Int) → (List Addr) → (List Addr) → (Addr) → (List Value) → (List Addr) → (Heap) → (Nat) → (Obj) → (Addr) → (Heap) → (Addr) → (List Value) → (Heap) → (Addr) → (Heap) → (Addr) → (Heap) → (Nat) → (Addr) → (List Value) → (Heap) → (List Int) → (Addr) → (Heap) → (List Addr) → (List Addr) → (Nat → Heap → Prop) → (Nat → Addr → Heap → Prop) → (Addr) → (Heap) → (Nat) → (Nat) → (Nat) → (Nat) → (Nat) → (Tok) → (Tok) → (Tok) → (Tok) → Prop := (@id (∀ {Rcut : (World) → (Shared) → (Shared) → (Str → Option Value) → (Str → Option Value) → (Addr) → (Obj) → (Value) → (Value) → (Value) → (List Int) → (List Addr) → (List Addr) → (Addr) → (List Value) → (List Addr) → (Heap) → (Nat) → (Obj) → (Addr) → (Heap) → (Addr) → (List Value) → (Heap) → (Addr) → (Heap) → (Addr) → (Heap) → (Nat) → (Addr) → (List Value) → (Heap) → (List Int) → (Addr) → (Heap) → (List Addr) → (List Addr) → (Nat → Heap → Prop) → (Nat → Addr → Heap → Prop) → (Addr) → (Heap) → (Nat) → (Nat) → (Nat) → (Nat) → (Nat) → (Tok) → (Tok) → (Tok) → (Tok) → Prop}, cut.1 = (∀ w0 v_1 s₁ v_2 v_3 v_6 v_7 v_8 v_9 v_10 v_20 v_26 v_27 v_28 v_29 v_30 v_40 v_41 v_42 v_47 v_48 v_50 v_51 v_52 v_57 v_58 v_60 v_61 v_63 D1 ws1 h1 zs z2 h2 fp2 wr2 St2 Mid2 D3 h9 tk9 a b c d ta tb tc td, Rcut w0 v_1 s₁ v_2 v_3 v_6 v_7 v_8 v_9 v_10 v_20 v_26 v_27 v_28 v_29 v_30 v_40 v_41 v_42 v_47 v_48 v_50 v_51 v_52 v_57 v_58 v_60 v_61 v_63 D1 ws1 h1 zs z2 h2 fp2 wr2 St2 Mid2 D3 h9 tk9 a b c d ta tb tc td) → _) fun {Rcut} _ => Rcut) rfl
noncomputable def Tcut : Type := (World × Shared × Shared × (Str → Option Value) × (Str → Option Value) × Addr × Obj × Value) × (Value × Value × (List Int) × (List Addr) × (List Addr) × Addr × (List Value) × (List Addr)) × (Heap × Nat × Obj × Addr × Heap × Addr × (List Value) × Heap) × (Addr × Heap × Addr × Heap × Nat × Addr × (List Value) × Heap) × ((List Int) × Addr × Heap × (List Addr) × (List Addr) × (Nat → Heap → Prop) × (Nat → Addr → Heap → Prop) × Addr) × (Heap × Nat × Nat × Nat × Nat × Nat × Tok × Tok) × (Tok × Tok)
noncomputable def Qcut (x : Tcut) : Prop := Pcut x.1.1 x.1.2.1 x.1.2.2.1 x.1.2.2.2.1 x.1.2.2.2.2.1 x.1.2.2.2.2.2.1 x.1.2.2.2.2.2.2.1 x.1.2.2.2.2.2.2.2 x.2.1.1 x.2.1.2.1 x.2.1.2.2.1 x.2.1.2.2.2.1 x.2.1.2.2.2.2.1 x.2.1.2.2.2.2.2.1 x.2.1.2.2.2.2.2.2.1 x.2.1.2.2.2.2.2.2.2 x.2.2.1.1 x.2.2.1.2.1 x.2.2.1.2.2.1 x.2.2.1.2.2.2.1 x.2.2.1.2.2.2.2.1 x.2.2.1.2.2.2.2.2.1 x.2.2.1.2.2.2.2.2.2.1 x.2.2.1.2.2.2.2.2.2.2 x.2.2.2.1.1 x.2.2.2.1.2.1 x.2.2.2.1.2.2.1 x.2.2.2.1.2.2.2.1 x.2.2.2.1.2.2.2.2.1 x.2.2.2.1.2.2.2.2.2.1 x.2.2.2.1.2.2.2.2.2.2.1 x.2.2.2.1.2.2.2.2.2.2.2 x.2.2.2.2.1.1 x.2.2.2.2.1.2.1 x.2.2.2.2.1.2.2.1 x.2.2.2.2.1.2.2.2.1 x.2.2.2.2.1.2.2.2.2.1 x.2.2.2.2.1.2.2.2.2.2.1 x.2.2.2.2.1.2.2.2.2.2.2.1 x.2.2.2.2.1.2.2.2.2.2.2.2 x.2.2.2.2.2.1.1 x.2.2.2.2.2.1.2.1 x.2.2.2.2.2.1.2.2.1 x.2.2.2.2.2.1.2.2.2.1 x.2.2.2.2.2.1.2.2.2.2.1 x.2.2.2.2.2.1.2.2.2.2.2.1 x.2.2.2.2.2.1.2.2.2.2.2.2.1 x.2.2.2.2.2.1.2.2.2.2.2.2.2 x.2.2.2.2.2.2.1 x.2.2.2.2.2.2.2
theorem ex_cut : ∃ x : Tcut, Qcut x → ∀ y, Qcut y := by
  haveI := neW; haveI := neA; haveI := neS
  haveI : Nonempty Tcut := by unfold Tcut; set_option synthInstance.maxSize 2000 in infer_instance
  exact henk1 Qcut
noncomputable def Ccut : Tcut := Classical.choose ex_cut
@[irreducible] noncomputable def w0 : World := Ccut.1.1
@[irreducible] noncomputable def v_1 : Shared := Ccut.1.2.1
@[irreducible] noncomputable def s₁ : Shared := Ccut.1.2.2.1
@[irreducible] noncomputable def v_2 : Str → Option Value := Ccut.1.2.2.2.1
@[irreducible] noncomputable def v_3 : Str → Option Value := Ccut.1.2.2.2.2.1
@[irreducible] noncomputable def v_6 : Addr := Ccut.1.2.2.2.2.2.1
@[irreducible] noncomputable def v_7 : Obj := Ccut.1.2.2.2.2.2.2.1
@[irreducible] noncomputable def v_8 : Value := Ccut.1.2.2.2.2.2.2.2
@[irreducible] noncomputable def v_9 : Value := Ccut.2.1.1
@[irreducible] noncomputable def v_10 : Value := Ccut.2.1.2.1
@[irreducible] noncomputable def v_20 : List Int := Ccut.2.1.2.2.1
@[irreducible] noncomputable def v_26 : List Addr := Ccut.2.1.2.2.2.1
@[irreducible] noncomputable def v_27 : List Addr := Ccut.2.1.2.2.2.2.1
@[irreducible] noncomputable def v_28 : Addr := Ccut.2.1.2.2.2.2.2.1
@[irreducible] noncomputable def v_29 : List Value := Ccut.2.1.2.2.2.2.2.2.1
@[irreducible] noncomputable def v_30 : List Addr := Ccut.2.1.2.2.2.2.2.2.2
@[irreducible] noncomputable def v_40 : Heap := Ccut.2.2.1.1
@[irreducible] noncomputable def v_41 : Nat := Ccut.2.2.1.2.1
@[irreducible] noncomputable def v_42 : Obj := Ccut.2.2.1.2.2.1
@[irreducible] noncomputable def v_47 : Addr := Ccut.2.2.1.2.2.2.1
@[irreducible] noncomputable def v_48 : Heap := Ccut.2.2.1.2.2.2.2.1
@[irreducible] noncomputable def v_50 : Addr := Ccut.2.2.1.2.2.2.2.2.1
@[irreducible] noncomputable def v_51 : List Value := Ccut.2.2.1.2.2.2.2.2.2.1
@[irreducible] noncomputable def v_52 : Heap := Ccut.2.2.1.2.2.2.2.2.2.2
@[irreducible] noncomputable def v_57 : Addr := Ccut.2.2.2.1.1
@[irreducible] noncomputable def v_58 : Heap := Ccut.2.2.2.1.2.1
@[irreducible] noncomputable def v_60 : Addr := Ccut.2.2.2.1.2.2.1
@[irreducible] noncomputable def v_61 : Heap := Ccut.2.2.2.1.2.2.2.1
@[irreducible] noncomputable def v_63 : Nat := Ccut.2.2.2.1.2.2.2.2.1
@[irreducible] noncomputable def D1 : Addr := Ccut.2.2.2.1.2.2.2.2.2.1
@[irreducible] noncomputable def ws1 : List Value := Ccut.2.2.2.1.2.2.2.2.2.2.1
@[irreducible] noncomputable def h1 : Heap := Ccut.2.2.2.1.2.2.2.2.2.2.2
@[irreducible] noncomputable def zs : List Int := Ccut.2.2.2.2.1.1
@[irreducible] noncomputable def z2 : Addr := Ccut.2.2.2.2.1.2.1
@[irreducible] noncomputable def h2 : Heap := Ccut.2.2.2.2.1.2.2.1
@[irreducible] noncomputable def fp2 : List Addr := Ccut.2.2.2.2.1.2.2.2.1
@[irreducible] noncomputable def wr2 : List Addr := Ccut.2.2.2.2.1.2.2.2.2.1
@[irreducible] noncomputable def St2 : Nat → Heap → Prop := Ccut.2.2.2.2.1.2.2.2.2.2.1
@[irreducible] noncomputable def Mid2 : Nat → Addr → Heap → Prop := Ccut.2.2.2.2.1.2.2.2.2.2.2.1
@[irreducible] noncomputable def D3 : Addr := Ccut.2.2.2.2.1.2.2.2.2.2.2.2
@[irreducible] noncomputable def h9 : Heap := Ccut.2.2.2.2.2.1.1
@[irreducible] noncomputable def tk9 : Nat := Ccut.2.2.2.2.2.1.2.1
@[irreducible] noncomputable def a : Nat := Ccut.2.2.2.2.2.1.2.2.1
@[irreducible] noncomputable def b : Nat := Ccut.2.2.2.2.2.1.2.2.2.1
@[irreducible] noncomputable def c : Nat := Ccut.2.2.2.2.2.1.2.2.2.2.1
@[irreducible] noncomputable def d : Nat := Ccut.2.2.2.2.2.1.2.2.2.2.2.1
@[irreducible] noncomputable def ta : Tok := Ccut.2.2.2.2.2.1.2.2.2.2.2.2.1
@[irreducible] noncomputable def tb : Tok := Ccut.2.2.2.2.2.1.2.2.2.2.2.2.2
@[irreducible] noncomputable def tc : Tok := Ccut.2.2.2.2.2.2.1
@[irreducible] noncomputable def td : Tok := Ccut.2.2.2.2.2.2.2
end
namespace K_top2
set_option maxHeartbeats 8000000 in
noncomputable def cut : (@Subtype (Prop) fun P => P → Pcut w0 v_1 s₁ v_2 v_3 v_6 v_7 v_8 v_9 v_10 v_20 v_26 v_27 v_28 v_29 v_30 v_40 v_41 v_42 v_47 v_48 v_50 v_51 v_52 v_57 v_58 v_60 v_61 v_63 D1 ws1 h1 zs z2 h2 fp2 wr2 St2 Mid2 D3 h9 tk9 a b c d ta tb tc td) := by
  refine' mkCut fun hole0 => ?_
  rotate_left
  focus
  intro i_4 i_5 i_11 i_12 i_13 hT8 i_14 i_15 i_16 i_17 i_18 i_19 hT9 i_21 i_22 i_23 i_24 i_25 i_31 i_32 i_33 i_34 i_35 i_36 i_37 i_38 i_39 i_43 i_44 fX fT fB lifted i_45 codeHd i_46 q138 q145 i_49 i_53 i_54 i_55 i_56 i_59 i_62 i_64 i_65 i_66 i_67 i_68 hI1 l1 hfp2 hLf2 hwr2 hnw2 F10 hlt3 ha hb hc hd N10
  k_steps
  unfold Hold
  (rename Fr _ _ _ _ => gF); (rename News _ _ _ _ => gN)
  have gF2 := gF
  k_dflt (refine' lcU (α := Nat) gF2 ?hclos ?hcell ?hkind ?hnames ?hx ?_)
  case hclos => with_unfolding_all rfl
  case hcell => decide
  case hkind => rfl
  case hnames => decide
  case hx => rfl
  walk1
  refine ⟨_, [a, b, c, d], fun k v => ∃ t, v = Value.int (k : Int) t, fun k y ex => (∃ t, y = Value.str ⟨(Plain.leadL k).toArray⟩ t) ∧ ex = [], rfl, gF2, gN, ?src, ?el, ?fin⟩
  case src => exact .lst (k := 4) (vs := [.int (a : Int) ta, .int (b : Int) tb, .int (c : Int) tc, .int (d : Int) td]) (by k_mem) (by rw [sizeLine_eq]; exact Nat.le_of_ble_eq_true rfl) (.cons ⟨_, rfl⟩ (.cons ⟨_, rfl⟩ (.cons ⟨_, rfl⟩ (.cons ⟨_, rfl⟩ .nil))))
  case el =>
    rintro k v I oI C oC D m₂ ys exs h5 tk5 E' hk ⟨t, rfl⟩ hC hx hown F5 N5
    have hx0 := hown.none (fun _ _ _ h => h.2)
    subst hx0
    have hk24 : k < 24 := by
      simp only [List.mem_cons, List.not_mem_nil, or_false] at hk
      omega
    clear gF gN gF2
    k_steps; repeat' (first | (refine unhold ?_; (first | ((with_reducible show wpAny _ _ (binaryOp _ (Value.str (Txt.mul _ _) _) (Value.str _ _)) _ _ _); refine PyProof.Rows.add_str ?_ (le4 _ (by assumption)); intro _ _) | ((with_reducible show wpAny _ _ (binaryOp _ (Value.str _ _) (Value.str _ _)) _ _ _); refine PyProof.Rows.add_str ?_ (le5 _ (by assumption)); intro _ _) | ((with_reducible show wpAny _ _ (eval (PySem.Expr.Dict _ _ _) _) _ _ _); k_dflt (refine' kdn_eval (knd := PySem.strKind _ _) ?Fzq ?Nzq ?bzq ?azq ?lzq ?ezq ?nzq ?_; (case Fzq => k_asm); (case Nzq => k_asm); (case bzq => exact Top.nolimit (by k_asm)); (case azq => rfl); (case lzq => rfl); (case ezq => exact List.cons_ne_nil _ _); (case nzq => exact Nat.le_of_ble_eq_true rfl)); intro d' h' o' F' N' l1 lo' hd'; (try k_lt l1); (try (revert d' h' o' F' N' l1 lo' hd'; intros))) | ((with_reducible show wpAny _ _ (subscriptTail _ _ (Value.ref _) (Value.str (wdS _) _)) _ _ _); k_dflt (refine kda_item (knd := PySem.strKind _ _) (by k_asm) (by k_mem) (by k_asm) (strKind_is _ _ _ _) (by assumption) ?_)) | ((with_reducible show wpAny _ _ (binaryOp _ (Value.str _ _) (Value.int _ _)) _ _ _); (refine SB.mul (mulOk_of 16 1048576 (by decide) ?hizq ?lozq (by decide) (by decide)) ?_); (case hizq => first | exact (le1 _ (by assumption)).2 | exact (le2 _ (by assumption)).2 | exact (le3 _ (by assumption)).2); (case lozq => first | exact (le1 _ (by assumption)).1 | exact (le2 _ (by assumption)).1 | exact (le3 _ (by assumption)).1); intro _ _)); (try k_steps)))
    unfold Hold
    (rename Fr _ _ _ _ => kF); (rename News _ _ _ _ => kN)
    exact ⟨[], _, _, rfl, kF, kN, ⟨⟨_, congrArg (Value.str · _) (le6 k hk24)⟩, rfl⟩, List.forall_mem_nil _⟩
  case fin =>
    intro D h5 tk5 ys exs F5 N5 hown hy hD
    have hx0 := hown.none (fun _ _ _ h => h.2)
    subst hx0
    clear gF2 gF gN
    have hy2 : Paired (fun k v => ∃ t, v = Value.str ⟨(Plain.leadL k).toArray⟩ t) [a, b, c, d] ys := Paired.mono' (fun k v ⟨ex, h1, h2⟩ => h1.1) hy
    clear hy hown hD
    dsimp only [List.nil_append] at N5
    k_steps
    (rename Fr _ _ _ _ => gF); (rename News _ _ _ _ => gN)
    have hyl : ys.length = 4 := (paired_len hy2).symm
    k_dflt (refine' add_listsK (vs := ys) (us := [.str (Str.ofString "\t\t\t    ") _]) gF gN ?ha ?hb ?hz ?_)
    case ha => k_mem
    case hb => k_mem
    case hz => (rw [hyl]; exact Nat.le_of_ble_eq_true rfl)
    clear gF gN
    intro D2 h6 F6 N6 hlt6
    have d138 : @LT.lt Nat _ 138 D2 := hlt6 (138, tabObj #[]) (by k_mem)
    have d145 : @LT.lt Nat _ 145 D2 := hlt6 (145, tabObj #[]) (by k_mem)
    obtain ⟨lvs, hlv, N6⟩ : ∃ lvs, Paired (fun (l : List Nat) v => ∃ t, v = Value.str ⟨l.toArray⟩ t) [Plain.leadL a, Plain.leadL b, Plain.leadL c, Plain.leadL d, Plain.leadL 24] lvs ∧ News _ _ h6 ((D2, W.listOf lvs.toArray 0) :: _) := ⟨_, leads5 hy2, N6⟩
    clear hy2
    k_steps
    unfold Hold
    (rename Fr _ _ _ _ => gF); (rename News _ _ _ _ => gN)
    have gF2 := gF
    k_dflt (refine' lcZ (α := List Nat × Nat) gF2 ?hclosz ?hcellz ?hkindz ?hnamesz ?hxz ?hx2z ?hxxz ?_)
    case hclosz => with_unfolding_all rfl
    case hcellz => decide
    case hkindz => rfl
    case hnamesz => decide
    case hxz => rfl
    case hx2z => rfl
    case hxxz => decide
    k_steps
    unfold Hold
    clear gF2
    (rename Fr _ _ _ _ => gF); (rename News _ _ _ _ => gN)
    have fa := Plain.fit_of (Plain.fits a (by omega))
    have fb := Plain.fit_of (Plain.fits b (by omega))
    have fc := Plain.fit_of (Plain.fits c (by omega))
    have fd := Plain.fit_of (Plain.fits d (by omega))
    have fe := Plain.fit_of (Plain.fits 24 (by omega))
    have hl5 : lvs.length = 5 := (paired_len hlv).symm
    k_dflt (refine' zipLS (vs := lvs) (by rfl) gF gN ?hza (by decide +kernel) ?hzl ?_)
    case hza => k_mem
    case hzl => (rw [hl5]; exact Nat.le_of_ble_eq_true rfl)
    intro z4 h7 fp4 wr4 St4 Mid4 W4 hst4 hfp4 hLf4 hwr4 hnw4 F7 N7
    clear gF gN
    refine ⟨z4, fp4, wr4, _, _, St4, Mid4, _, [(Plain.leadL a, 97), (Plain.leadL b, 98), (Plain.leadL c, 99), (Plain.leadL d, 100), (Plain.leadL 24, 101)], fun k v1 v2 => (∃ t, v1 = .str ⟨k.1.toArray⟩ t) ∧ ∃ t, v2 = .str ⟨#[k.2]⟩ t, fun k y => ∃ t, y = .str ⟨(piece k).toArray⟩ t, rfl, rfl, W4, hst4, hfp4, hLf4, hwr4, hnw4, F7, N7, hl5.symm, ?zs4, ?pt4, ?elz4, ?finz4⟩
    case zs4 => (rw [hl5, sizeLine_eq]; exact Nat.le_of_ble_eq_true rfl)
    case pt4 =>
      rintro i vals hi ⟨x, y, hx, ⟨ch, u, hch, rfl⟩, rfl⟩
      obtain ⟨l, hl, t, rfl⟩ := paired_at hlv i x hx
      cases i with
      | zero => cases hl; cases hch; exact ⟨_, _, _, rfl, rfl, ⟨_, rfl⟩, _, rfl⟩
      | succ i => cases i with
        | zero => cases hl; cases hch; exact ⟨_, _, _, rfl, rfl, ⟨_, rfl⟩, _, rfl⟩
        | succ i => cases i with
          | zero => cases hl; cases hch; exact ⟨_, _, _, rfl, rfl, ⟨_, rfl⟩, _, rfl⟩
          | succ i => cases i with
            | zero => cases hl; cases hch; exact ⟨_, _, _, rfl, rfl, ⟨_, rfl⟩, _, rfl⟩
            | succ i => cases i with
              | zero => cases hl; cases hch; exact ⟨_, _, _, rfl, rfl, ⟨_, rfl⟩, _, rfl⟩
              | succ i => first | cases hl | simp at hl
    case elz4 =>
      rintro k v1 v2 C4 oC4 D4 m4 ys4 own4 h8 tk8 E4 hk4 ⟨⟨ta4, rfl⟩, tb4, rfl⟩ hC4 hx4 hx42 F8 N8
      have hk8 : k.1.length ≤ 8 := by
        simp only [List.mem_cons, List.not_mem_nil, or_false] at hk4
        rcases hk4 with rfl | rfl | rfl | rfl | rfl
        · exact fa.2.2.2.2.2.1
        · exact fb.2.2.2.2.2.1
        · exact fc.2.2.2.2.2.1
        · exact fd.2.2.2.2.2.1
        · exact fe.2.2.2.2.2.1
      clear F7 N7
      k_steps
      unfold Hold
      (rename Fr _ _ _ _ => kF); (rename News _ _ _ _ => kN)
      have kF2 := kF
      k_dflt (refine' lcS kF2 ?hclos6 ?hcell6 ?hkind6 ?hnames6 ?hx6 ?_)
      case hclos6 => with_unfolding_all rfl
      case hcell6 => decide
      case hkind6 => rfl
      case hnames6 => decide
      case hx6 => rfl
      walk1
      refine ⟨⟨k.1.toArray⟩, ta4, _, fun s y ex => (∃ t, y = Value.str ⟨[92, s].toArray⟩ t) ∧ ex = [], rfl, rfl, kF2, kN, ?sz6, ?el6, ?fin6⟩
      case sz6 => (rw [sizeLine_eq, List.size_toArray]; omega)
      case el6 =>
        rintro s6 v I oI C oC D6 m₂ ys6 exs6 h6 tk6 E' hk6 ⟨t6, rfl⟩ hC6 hx6 hown6 F6 N6
        have hx0 := hown6.none (fun _ _ _ h => h.2)
        subst hx0
        clear kF kN kF2
        k_steps
        refine unhold ?_
        refine PyProof.Rows.add_str ?_
        intro _ _
        k_steps
        unfold Hold
        (rename Fr _ _ _ _ => kF); (rename News _ _ _ _ => kN)
        exact ⟨[], _, _, rfl, kF, kN, ⟨⟨_, rfl⟩, rfl⟩, List.forall_mem_nil _⟩
      case fin6 =>
        intro D6 h6 tk6 ys6 exs6 F6 N6 hown6 hy6 hD6
        have hx0 := hown6.none (fun _ _ _ h => h.2)
        subst hx0
        clear kF2 kF kN
        dsimp only [List.nil_append] at N6
        k_steps
        unfold Hold
        (rename Fr _ _ _ _ => kF); (rename News _ _ _ _ => kN)
        have hs6 := strs_map (as := k.1) (f := fun s : Nat => [92, s]) (Paired.mono' (fun k v ⟨ex, h1, h2⟩ => h1.1) hy6)
        k_dflt (refine' join_listW (items := ys6.toArray) ⟨_, (kN (D6, LCg.lst ys6) (by k_mem)).1, rfl, _, rfl⟩ hs6 (by decide) ?wt6 ?_)
        case wt6 => exact wt_flat (fun _ _ => by simp) (by omega)
        rw [piece_join]
        intro tj kj
        k_steps
        refine unhold ?_
        refine add_str (fun t7 k7 => ?_) (by rw [sizeLine_eq, len_str, len_flat]; show _ + 1 ≤ _; omega)
        rw [str_app]
        k_steps
        refine unhold ?_
        refine add_str (fun t8 k8 => ?_) (by rw [sizeLine_eq, len_str, List.length_append, len_flat]; show _ + 1 + 1 ≤ _; omega)
        rw [piece_end]
        k_steps
        unfold Hold
        (rename Fr _ _ _ _ => jF); (rename News _ _ _ _ => jN)
        exact ⟨⟨_, rfl⟩, _, _, rfl, jF, fun p hp => jN p (.tail _ hp)⟩
    case finz4 =>
      intro D4 h8 tk8 ys4 F8 N8 hp4 hlt4
      clear F7 N7
      have hbl : ∀ {l : List Nat}, LeadFit l → ∀ c ∈ l, c = 32 ∨ c = 9 := fun h => h.2.2.2.2.2.2
      have htx := pieces_text (z := ⟨Plain.leadL a, Plain.leadL b, Plain.leadL c, Plain.leadL d, Plain.leadL 24⟩) (hbl fa) (hbl fb) (hbl fc) (hbl fd) (hbl fe)
      have N9 : News _ _ h8 ((D4, LCg.lst ys4) :: (138, tabObj #[]) :: (145, tabObj #[]) :: (D2, W.listOf lvs.toArray 0) :: [(_, _)]) := fun p hp => N8 p (by
        simp only [List.mem_cons, List.not_mem_nil, or_false] at hp ⊢
        rcases hp with rfl | rfl | rfl | rfl | rfl
        · exact .inl rfl
        · exact .inr (.inr (.inr (.inr (.inr (.inr (.inr (.inr (.inr (.inr (.inr (.inl rfl)))))))))))
        · exact .inr (.inr (.inr (.inr (.inr (.inr (.inr (.inr (.inr (.inr (.inr (.inr rfl)))))))))))
        · exact .inr (.inl rfl)
        · exact .inr (.inr (.inr (.inr (.inr (.inr (.inr (.inr (.inr (.inr (.inl rfl)))))))))))
      clear N8
      rename_i v_1 v_2 i_3 v_4
      revert i_4 i_5 i_11 i_12 i_13 hT8 i_14 i_15 i_16 i_17 i_18 i_19 hT9 i_21 i_22 i_23 i_24 i_25 i_31 i_32 i_33 i_34 i_35 i_36 i_37 i_38 i_39 i_43 i_44 fX fT fB lifted i_45 codeHd i_46 q138 q145 i_49 i_53 i_54 i_55 i_56 i_59 i_62 i_64 i_65 i_66 i_67 i_68 hI1 l1 hfp2 hLf2 hwr2 hnw2 hlt3 ha hb hc hd i_3 hyl hlt6 d138 d145 hlv fa fb fc fd fe hl5 W4 hst4 hfp4 hLf4 hwr4 hnw4 F8 hp4 hlt4 hbl htx N9
      revert D h5 tk5 ys v_1 v_2 D2 h6 lvs v_4 tk z4 h7 fp4 wr4 St4 Mid4 D4 h8 tk8 ys4
      exact no_implicit_lambda% hole0.get
noncomputable section
noncomputable def Pcut : (Addr) → (Heap) → (Nat) → (List Value) → (Addr) → (Heap) → (Addr) → (Heap) → (List Value) → (Heap) → (Nat) → (Addr) → (Heap) → (List Addr) → (List Addr) → (Nat → Heap → Prop) → (Nat → Addr → Heap → Prop) → (Addr) → (Heap) → (Nat) → (List Value) → Prop := (@id (∀ {Rcut : (Addr) → (Heap) → (Nat) → (List Value) → (Addr) → (Heap) → (Addr) → (Heap) → (List Value) → (Heap) → (Nat) → (Addr) → (Heap) → (List Addr) → (List Addr) → (Nat → Heap → Prop) → (Nat → Addr → Heap → Prop) → (Addr) → (Heap) → (Nat) → (List Value) → Prop}, cut.1 = (∀ D h5 tk5 ys v_1 v_2 D2 h6 lvs v_4 tk z4 h7 fp4 wr4 St4 Mid4 D4 h8 tk8 ys4, Rcut D h5 tk5 ys v_1 v_2 D2 h6 lvs v_4 tk z4 h7 fp4 wr4 St4 Mid4 D4 h8 tk8 ys4) → _) fun {Rcut} _ => Rcut) rfl
noncomputable def Tcut : Type := (Addr × Heap × Nat × (List Value) × Addr) × (Heap × Addr × Heap × (List Value) × Heap) × (Nat × Addr × Heap × (List Addr) × (List Addr)) × ((Nat → Heap → Prop) × (Nat → Addr → Heap → Prop) × Addr × Heap × Nat) × (List Value)
noncomputable def Qcut (x : Tcut) : Prop := Pcut x.1.1 x.1.2.1 x.1.2.2.1 x.1.2.2.2.1 x.1.2.2.2.2 x.2.1.1 x.2.1.2.1 x.2.1.2.2.1 x.2.1.2.2.2.1 x.2.1.2.2.2.2 x.2.2.1.1 x.2.2.1.2.1 x.2.2.1.2.2.1 x.2.2.1.2.2.2.1 x.2.2.1.2.2.2.2 x.2.2.2.1.1 x.2.2.2.1.2.1 x.2.2.2.1.2.2.1 x.2.2.2.1.2.2.2.1 x.2.2.2.1.2.2.2.2 x.2.2.2.2
theorem ex_cut : ∃ x : Tcut, Qcut x → ∀ y, Qcut y := by
  haveI := neW; haveI := neA; haveI := neS
  haveI : Nonempty Tcut := by unfold Tcut; set_option synthInstance.maxSize 2000 in infer_instance
  exact henk1 Qcut
noncomputable def Ccut : Tcut := Classical.choose ex_cut
@[irreducible] noncomputable def D : Addr := Ccut.1.1
@[irreducible] noncomputable def h5 : Heap := Ccut.1.2.1
@[irreducible] noncomputable def tk5 : Nat := Ccut.1.2.2.1
@[irreducible] noncomputable def ys : List Value := Ccut.1.2.2.2.1
@[irreducible] noncomputable def v_1 : Addr := Ccut.1.2.2.2.2
@[irreducible] noncomputable def v_2 : Heap := Ccut.2.1.1
@[irreducible] noncomputable def D2 : Addr := Ccut.2.1.2.1
@[irreducible] noncomputable def h6 : Heap := Ccut.2.1.2.2.1
@[irreducible] noncomputable def lvs : List Value := Ccut.2.1.2.2.2.1
@[irreducible] noncomputable def v_4 : Heap := Ccut.2.1.2.2.2.2
@[irreducible] noncomputable def tk : Nat := Ccut.2.2.1.1
@[irreducible] noncomputable def z4 : Addr := Ccut.2.2.1.2.1
@[irreducible] noncomputable def h7 : Heap := Ccut.2.2.1.2.2.1
@[irreducible] noncomputable def fp4 : List Addr := Ccut.2.2.1.2.2.2.1
@[irreducible] noncomputable def wr4 : List Addr := Ccut.2.2.1.2.2.2.2
@[irreducible] noncomputable def St4 : Nat → Heap → Prop := Ccut.2.2.2.1.1
@[irreducible] noncomputable def Mid4 : Nat → Addr → Heap → Prop := Ccut.2.2.2.1.2.1
@[irreducible] noncomputable def D4 : Addr := Ccut.2.2.2.1.2.2.1
@[irreducible] noncomputable def h8 : Heap := Ccut.2.2.2.1.2.2.2.1
@[irreducible] noncomputable def tk8 : Nat := Ccut.2.2.2.1.2.2.2.2
@[irreducible] noncomputable def ys4 : List Value := Ccut.2.2.2.2
end
namespace K_top3
set_option maxHeartbeats 8000000 in
noncomputable def cut : (@Subtype (Prop) fun P => P → Pcut D h5 tk5 ys v_1 v_2 D2 h6 lvs v_4 tk z4 h7 fp4 wr4 St4 Mid4 D4 h8 tk8 ys4) := by
  refine' mkCut fun hole0 => ?_
  rotate_left
  focus
  intro i_4 i_5 i_11 i_12 i_13 hT8 i_14 i_15 i_16 i_17 i_18 i_19 hT9 i_21 i_22 i_23 i_24 i_25 i_31 i_32 i_33 i_34 i_35 i_36 i_37 i_38 i_39 i_43 i_44 fX fT fB lifted i_45 codeHd i_46 q138 q145 i_49 i_53 i_54 i_55 i_56 i_59 i_62 i_64 i_65 i_66 i_67 i_68 hI1 l1 hfp2 hLf2 hwr2 hnw2 hlt3 ha hb hc hd i_3 hyl hlt6 d138 d145 hlv fa fb fc fd fe hl5 W4 hst4 hfp4 hLf4 hwr4 hnw4 F8 hp4 hlt4 hbl htx N9
  k_steps
  unfold Hold
  (rename Fr _ _ _ _ => kF); (rename News _ _ _ _ => kN)
  have hs4 := strs_map (f := piece) hp4
  k_dflt (refine' join_listW (items := ys4.toArray) ⟨_, (kN (D4, LCg.lst ys4) (by k_mem)).1, rfl, _, rfl⟩ hs4 (by decide) ?wt4 ?_)
  case wt4 =>
    refine wt_flat (fun k hk => ?_) (Nat.le_of_ble_eq_true rfl)
    rw [piece_len]
    simp only [List.mem_cons, List.not_mem_nil, or_false] at hk
    rcases hk with rfl | rfl | rfl | rfl | rfl
    · have := fa.2.2.2.2.2.1; dsimp only; omega
    · have := fb.2.2.2.2.2.1; dsimp only; omega
    · have := fc.2.2.2.2.2.1; dsimp only; omega
    · have := fd.2.2.2.2.2.1; dsimp only; omega
    · have := fe.2.2.2.2.2.1; dsimp only; omega
  rw [join_flat, htx]
  intro tj kj
  have hz : FiveFit ⟨Plain.leadL a, Plain.leadL b, Plain.leadL c, Plain.leadL d, Plain.leadL 24⟩ := ⟨fa, fb, fc, fd, fe⟩
  obtain ⟨hgood, hT⟩ := told_leads ha hb hc hd
  dsimp only [fiveV] at hgood hT
  generalize hzz : (⟨Plain.leadL a, Plain.leadL b, Plain.leadL c, Plain.leadL d, Plain.leadL 24⟩ : Five) = z at hz hgood hT
  k_steps
  unfold Hold
  refine wpAny_call ?_
  (rename Fr _ _ _ _ => jF); (rename News _ _ _ _ => jN)
  k_dflt (refine' code_at (moves_spec (z := z) (news := [(D2, W.listOf lvs.toArray 0), (_, _)]) fB jF fX (fun p hp => jN p (.tail _ hp)) fT ?c1 ?c2 ?h138 ?h145 ?hk ?ht hz hgood ?h) ?b1 ?b2 ?b3 ?b4 ?b5)
  case b1 => exact rfl
  case b2 => exact rfl
  case b3 => exact rfl
  case b4 => exact Nat.le_of_ble_eq_true rfl
  case b5 => exact Nat.le_of_ble_eq_true rfl
  case hk => exact rfl
  case c1 => assumption
  case c2 => assumption
  case ht => rw [← hzz]
  case h138 =>
    intro p hp
    rcases List.mem_cons.mp hp with rfl | hp
    · exact neN (Nat.ne_of_gt d138)
    · rw [List.mem_singleton.mp hp]
      exact neN (Nat.ne_of_gt (Nat.lt_succ_of_lt q138))
  case h145 =>
    intro p hp
    rcases List.mem_cons.mp hp with rfl | hp
    · exact neN (Nat.ne_of_gt d145)
    · rw [List.mem_singleton.mp hp]
      exact neN (Nat.ne_of_gt (Nat.lt_succ_of_lt q145))
  case h =>
    intro dm st tb9 h9 tk9 F9 N9 hsys9 V9
    clear jF jN
    obtain ⟨bl, ebl⟩ : ∃ bl, bl = bookLed st.book ++ [(138, tabObj tb9), (145, tabObj st.tb)] := ⟨_, rfl⟩
    replace N9 : News _ _ h9 ([(D2, W.listOf lvs.toArray 0), (_, _)] ++ (dm, st.om) :: bl) := fun p hp => N9 p (by
      rw [ebl] at hp
      simp only [List.mem_cons, List.mem_append, List.not_mem_nil, or_false] at hp ⊢
      rcases hp with (rfl | rfl) | rfl | hp | rfl | rfl
      · exact .inr (.inr (.inl (.inl rfl)))
      · exact .inr (.inr (.inl (.inr rfl)))
      · exact .inr (.inr (.inr (.inl rfl)))
      · exact .inr (.inr (.inr (.inr hp)))
      · exact .inl rfl
      · exact .inr (.inl rfl))
    rw [← V9.hb] at hT
    (rename Obj.data _ = Data.cell _ => hwon)
    have e3 := off_cell N9 (List.mem_append_left _ (.tail _ (.head _))) hwon
    have e1 := e3 (D2, _) (.head _) (fun v h => nomatch h)
    have e2 := e3 (dm, st.om) (List.mem_append_right _ (.head _)) (fun v h => by
      obtain ⟨_, _, _, hod, _⟩ := V9.hom
      rw [hod] at h
      cases h)
    have e4 : ∀ p ∈ bl, p.1 ≠ _ := fun p hp => e3 p (List.mem_append_right _ (.tail _ hp)) (by
      rw [ebl] at hp
      rcases List.mem_append.mp hp with hp | hp
      · obtain ⟨e, _, rfl⟩ := List.mem_map.mp hp
        exact fun v h => nomatch h
      · simp only [List.mem_cons, List.not_mem_nil, or_false] at hp
        rcases hp with rfl | rfl <;> exact fun v h => nomatch h)
    dsimp only at e1 e2
    clear e3
    dsimp only [List.cons_append, List.nil_append] at N9
    revert i_4 i_5 i_11 i_12 i_13 hT8 i_14 i_15 i_16 i_17 i_18 i_19 hT9 i_21 i_22 i_23 i_24 i_25 i_31 i_32 i_33 i_34 i_35 i_36 i_37 i_38 i_39 hwon i_44 fX fT fB lifted i_45 codeHd i_46 q138 q145 i_49 i_53 i_54 i_55 i_56 i_59 i_62 i_64 i_65 i_66 i_67 i_68 hI1 l1 hfp2 hLf2 hwr2 hnw2 hlt3 ha hb hc hd i_3 hyl hlt6 d138 d145 hlv fa fb fc fd fe hl5 W4 hst4 hfp4 hLf4 hwr4 hnw4 hp4 hlt4 hbl htx hs4 hzz hz hgood hT F9 hsys9 V9 ebl N9 e1 e2 e4
    revert tj kj z dm st tb9 h9 tk9 bl
    exact no_implicit_lambda% hole0.get
noncomputable section
noncomputable def Pcut : (Tok) → (Nat) → (Five) → (Addr) → (WS) → (Array Value) → (Heap) → (Nat) → (List (Addr × Obj)) → Prop := (@id (∀ {Rcut : (Tok) → (Nat) → (Five) → (Addr) → (WS) → (Array Value) → (Heap) → (Nat) → (List (Addr × Obj)) → Prop}, cut.1 = (∀ tj kj z dm st tb9 h9 tk9 bl, Rcut tj kj z dm st tb9 h9 tk9 bl) → _) fun {Rcut} _ => Rcut) rfl
noncomputable def Tcut : Type := (Tok × Nat × Five) × (Addr × WS × (Array Value)) × (Heap × Nat × (List (Addr × Obj)))
noncomputable def Qcut (x : Tcut) : Prop := Pcut x.1.1 x.1.2.1 x.1.2.2 x.2.1.1 x.2.1.2.1 x.2.1.2.2 x.2.2.1 x.2.2.2.1 x.2.2.2.2
theorem ex_cut : ∃ x : Tcut, Qcut x → ∀ y, Qcut y := by
  haveI : Nonempty Five := by refine ⟨?_⟩; repeat' (first | exact default | constructor)
  haveI : Nonempty WS := by refine ⟨?_⟩; repeat' (first | exact default | constructor)
  haveI := neW; haveI := neA; haveI := neS
  haveI : Nonempty Tcut := by unfold Tcut; set_option synthInstance.maxSize 2000 in infer_instance
  exact henk1 Qcut
noncomputable def Ccut : Tcut := Classical.choose ex_cut
@[irreducible] noncomputable def tj : Tok := Ccut.1.1
@[irreducible] noncomputable def kj : Nat := Ccut.1.2.1
@[irreducible] noncomputable def z : Five := Ccut.1.2.2
@[irreducible] noncomputable def dm : Addr := Ccut.2.1.1
@[irreducible] noncomputable def st : WS := Ccut.2.1.2.1
@[irreducible] noncomputable def tb9 : Array Value := Ccut.2.1.2.2
@[irreducible] noncomputable def h9 : Heap := Ccut.2.2.1
@[irreducible] noncomputable def tk9 : Nat := Ccut.2.2.2.1
@[irreducible] noncomputable def bl : List (Addr × Obj) := Ccut.2.2.2.2
end
set_option maxHeartbeats 8000000 in
theorem at_cut : Pcut tj kj z dm st tb9 h9 tk9 bl := by
  intro i_4 i_5 i_11 i_12 i_13 hT8 i_14 i_15 i_16 i_17 i_18 i_19 hT9 i_21 i_22 i_23 i_24 i_25 i_31 i_32 i_33 i_34 i_35 i_36 i_37 i_38 i_39 hwon i_44 fX fT fB lifted i_45 codeHd i_46 q138 q145 i_49 i_53 i_54 i_55 i_56 i_59 i_62 i_64 i_65 i_66 i_67 i_68 hI1 l1 hfp2 hLf2 hwr2 hnw2 hlt3 ha hb hc hd i_3 hyl hlt6 d138 d145 hlv fa fb fc fd fe hl5 W4 hst4 hfp4 hLf4 hwr4 hnw4 hp4 hlt4 hbl htx hs4 hzz hz hgood hT F9 hsys9 V9 ebl N9 e1 e2 e4
  k_steps; repeat' (first | (refine unhold ?_; (first | ((with_reducible show wpAny _ _ (eval (PySem.Expr.Dict _ _ _) _) _ _ _); k_dflt (refine' kdn_eval (knd := PySem.strKind _ _) ?Fzq ?Nzq ?bzq ?azq ?lzq ?ezq ?nzq ?_; (case Fzq => k_asm); (case Nzq => k_asm); (case bzq => exact Top.nolimit (by k_asm)); (case azq => rfl); (case lzq => rfl); (case ezq => exact List.cons_ne_nil _ _); (case nzq => exact Nat.le_of_ble_eq_true rfl)); intro d' h' o' F' N' l1 lo' hd'; (try k_lt l1); (try (revert d' h' o' F' N' l1 lo' hd'; intros))) | ((with_reducible show wpAny _ _ (subscriptTail _ _ (Value.ref _) (Value.str (wdS _) _)) _ _ _); k_dflt (refine kda_item (knd := PySem.strKind _ _) (by k_asm) (by k_mem) (by k_asm) (strKind_is _ _ _ _) (by assumption) ?_)) | ((with_reducible show wpAny _ _ (binaryOp _ (Value.str _ _) (Value.int _ _)) _ _ _); (refine SB.mul (mulOk_of 16 1048576 (by decide) ?hizq ?lozq (by decide) (by decide)) ?_); (case hizq => first | exact (le1 _ (by assumption)).2 | exact (le2 _ (by assumption)).2 | exact (le3 _ (by assumption)).2); (case lozq => first | exact (le1 _ (by assumption)).1 | exact (le2 _ (by assumption)).1 | exact (le3 _ (by assumption)).1); intro _ _)); (try k_steps)))
  unfold Hold
  (rename Fr _ _ _ _ => kF); (rename News _ _ _ _ => kN); (rename Obj.IsDictOf _ _ _ => hod0)
  rename_i dw hw1 ow0 hsysw hdw0 l1w hw2 ow hfw hw3 oc hoc
  clear hfw hdw0
  (with_unfolding_all refine' For_invVF kF ?k1 ?k2 ?_; (case k1 => exact rfl); (case k2 => exact rfl); k_whole)
  k_steps
  unfold Hold
  (rename Fr _ _ _ _ => gF); (rename News _ _ _ _ => gN)
  have hbl2 : st.book.length ≤ 31 := by
    have h1 := hT.len
    have h2 : (Plain.dueOf (dprAt (leadsV a b c d))).length ≤ 32 := dueT_len (dprAt (leadsV a b c d)) 31
    rw [List.length_map] at h1
    omega
  k_dflt (refine' sorted_dict (kvs := bookKvs st.book) ?hh hsys9 gF gN ?hm V9.hom ?h64 ?hzs ?_)
  case hh => rfl
  case hm => k_mem
  case h64 => (rw [List.length_map]; omega)
  case hzs =>
    intro k hk
    rw [bookKvs_fst] at hk
    obtain ⟨w, hw, rfl⟩ := List.mem_map.mp hk
    obtain ⟨e, he, rfl⟩ := List.mem_map.mp hw
    have := hT.sml e he
    rw [wdS_length]
    omega
  intro D5 h10 tk10 out c10 ks F10 N10 lt10 hS10 hp10 hs10
  clear gF gN
  rw [bookKvs_fst] at hp10
  obtain ⟨ws, rfl, O⟩ := ordered_of hp10 hs10
  clear hp10 hs10
  obtain ⟨g1, g2, g3, g4⟩ := l1w
  have g4 : ∀ p ∈ bl, p.1 ≠ dw := allLt_ne g4
  have hom := V9.hom
  have hD5 : @Ne Nat dw D5 := Nat.ne_of_lt (lt10 (dw, ow) (.head _))
  generalize hdue : Plain.dueOf (dprAt (leadsV a b c d)) = due at hT
  let Led : Obj → List (Addr × Obj) := fun o => (dw, o) :: (D2, W.listOf lvs.toArray 0) :: (s₁.heap.objs.size + 1, oc) :: (dm, st.om) :: bl
  k_dflt (refine' iter_listS Led (fun i o => o.IsDictOf (PySem.strKind Challenge.rw_pg0196_01.row.prog w0) (dueK (tabW due (ws.take i)))) ow (by rfl) F10 N10 (.head _) (fun p hp => .tail _ hp) ?hp0 ?turn ?done)
  case hp0 => exact hod0
  case turn =>
    rintro i od v h11 tk11 own I oI hv hP hI hmem hown F11 N11
    obtain ⟨x, t, hx, rfl⟩ := strs_at hS10 hv
    rw [List.getElem?_map] at hx
    obtain ⟨w, hw, rfl⟩ := Option.map_eq_some_iff.mp hx
    obtain ⟨u, hu, hue⟩ := List.mem_map.mp (O.perm.mem_iff.mp (List.mem_of_getElem? hw))
    obtain ⟨e, he, hee⟩ := List.mem_map.mp hu
    have hew : e.w = w := by rw [← hue, ← hee]
    have hval := book_value hT.nod he
    rw [hew] at hval
    have hoff : ∀ p ∈ own, p.1 ≠ dw := fun p hp => by
      rcases hown p hp with q | q
      · rw [q]; exact (hI (dw, od) (.head _)).symm
      · rw [q]; exact hD5.symm
    have hlow := ordered_low hT O (e := (e.w, e.ls)) (by rw [hew]; exact hw) (by rw [hee]; exact hu)
    have hfew := hT.few (e.w, e.ls) (by rw [hee]; exact hu)
    have hvw := ordered_val hT (e := (e.w, e.ls)) (by rw [hee]; exact hu)
    have hnd := tabW_nodup hT O i
    have hfr := tabW_fresh hT O hw
    have hsv := V9.hok e he
    have hilt : i < ws.length := (List.getElem?_eq_some_iff.mp hw).1
    have hwl : ws.length ≤ 31 := by rw [O.perm.length_eq, List.length_map, List.length_map]; exact hbl2
    dsimp only at hfew hvw hlow
    rw [hew] at hvw
    clear F10 N10 hx hv
    dsimp only [Led, List.cons_append] at N11
    replace F11 : Fr _ s₁.heap.objs.size h11 _ := F11
    replace N11 : News _ s₁.heap.objs.size h11 _ := N11
    have mm : (e.la, W.listOf e.vs.toArray e.cap) ∈ bl ++ own := List.mem_append_left _ (by rw [ebl]; exact List.mem_append_left _ (List.mem_map.mpr ⟨e, he, rfl⟩))
    have htl : ∀ p ∈ bl ++ own, p.1 ≠ dw := fun p hp => (List.mem_append.mp hp).elim (g4 p) (hoff p)
    obtain ⟨tl, etl⟩ : ∃ tl, tl = bl ++ own := ⟨_, rfl⟩
    rw [← etl] at N11 mm htl
    k_steps
    unfold Hold
    (rename Fr _ _ _ _ => gF); (rename News _ _ _ _ => gN)
    have gF2 := gF
    k_dflt (refine' lcU (α := Wd) gF2 ?hclos ?hcell ?hkind ?hnames ?hx ?_)
    case hclos => with_unfolding_all rfl
    case hcell => decide
    case hkind => rfl
    case hnames => decide
    case hx => rfl
    k_steps; repeat' (first | (refine unhold ?_; (first | ((with_reducible show wpAny _ _ (eval (PySem.Expr.Dict _ _ _) _) _ _ _); k_dflt (refine' kdn_eval (knd := PySem.strKind _ _) ?Fzq ?Nzq ?bzq ?azq ?lzq ?ezq ?nzq ?_; (case Fzq => k_asm); (case Nzq => k_asm); (case bzq => exact Top.nolimit (by k_asm)); (case azq => rfl); (case lzq => rfl); (case ezq => exact List.cons_ne_nil _ _); (case nzq => exact Nat.le_of_ble_eq_true rfl)); intro d' h' o' F' N' l1 lo' hd'; (try k_lt l1); (try (revert d' h' o' F' N' l1 lo' hd'; intros))) | ((with_reducible show wpAny _ _ (subscriptTail _ _ (Value.ref _) (Value.str (wdS _) _)) _ _ _); k_dflt (refine kda_item (knd := PySem.strKind _ _) (by k_asm) (by k_mem) (by k_asm) (strKind_is _ _ _ _) (by assumption) ?_)) | ((with_reducible show wpAny _ _ (binaryOp _ (Value.str _ _) (Value.int _ _)) _ _ _); (refine SB.mul (mulOk_of 16 1048576 (by decide) ?hizq ?lozq (by decide) (by decide)) ?_); (case hizq => first | exact (le1 _ (by assumption)).2 | exact (le2 _ (by assumption)).2 | exact (le3 _ (by assumption)).2); (case lozq => first | exact (le1 _ (by assumption)).1 | exact (le2 _ (by assumption)).1 | exact (le3 _ (by assumption)).1); intro _ _)); (try k_steps)))
    unfold Hold
    (rename Fr _ _ _ _ => kF); (rename News _ _ _ _ => kN)
    refine ⟨_, e.ls, fun w v => ∃ t, v = Value.str (wdS w) t, fun w y ex => y = Value.bool (Plain.look w due == some true) ∧ ex = [], rfl, kF, kN, .lst (ax := e.la) (k := e.cap) (vs := e.vs) ?mm (by rw [strs_len hsv, List.length_map, sizeLine_eq]; omega) (paired_of_strs hsv), ?el7, ?fin7⟩
    case mm => exact .tail _ (.tail _ (.tail _ (.tail _ mm)))
    case el7 =>
      rintro l v I2 oI2 C2 oC2 D6 m₂ ys6 exs6 h12 tk12 E2 hl ⟨t4, rfl⟩ hC2 hx2 hown6 F12 N12
      have hx0 := hown6.none (fun _ _ _ h => h.2)
      subst hx0
      clear kF kN; (try clear gF2); (try clear gF); (try clear gN)
      dsimp only [List.nil_append] at N12
      have hlt := hlow l hl
      have hlk := due_look hnd (w := l) (by rw [tabW_keys]; exact List.mem_cons.mpr hlt)
      have hlk2 := tabW_look hT.nil hlt
      rw [hlk2] at hlk
      replace hlk : valueAt (dueK (tabW due (List.take i ws))) (wdS l) = some (Value.bool (Plain.look l due == some true)) := by
        rw [hlk]
        cases (Plain.look l due == some true) <;> rfl
      k_steps; repeat' (first | (refine unhold ?_; (first | ((with_reducible show wpAny _ _ (eval (PySem.Expr.Dict _ _ _) _) _ _ _); k_dflt (refine' kdn_eval (knd := PySem.strKind _ _) ?Fzq ?Nzq ?bzq ?azq ?lzq ?ezq ?nzq ?_; (case Fzq => k_asm); (case Nzq => k_asm); (case bzq => exact Top.nolimit (by k_asm)); (case azq => rfl); (case lzq => rfl); (case ezq => exact List.cons_ne_nil _ _); (case nzq => exact Nat.le_of_ble_eq_true rfl)); intro d' h' o' F' N' l1 lo' hd'; (try k_lt l1); (try (revert d' h' o' F' N' l1 lo' hd'; intros))) | ((with_reducible show wpAny _ _ (subscriptTail _ _ (Value.ref _) (Value.str (wdS _) _)) _ _ _); k_dflt (refine kda_item (knd := PySem.strKind _ _) (by k_asm) (by k_mem) (by k_asm) (strKind_is _ _ _ _) (by assumption) ?_)) | ((with_reducible show wpAny _ _ (binaryOp _ (Value.str _ _) (Value.int _ _)) _ _ _); (refine SB.mul (mulOk_of 16 1048576 (by decide) ?hizq ?lozq (by decide) (by decide)) ?_); (case hizq => first | exact (le1 _ (by assumption)).2 | exact (le2 _ (by assumption)).2 | exact (le3 _ (by assumption)).2); (case lozq => first | exact (le1 _ (by assumption)).1 | exact (le2 _ (by assumption)).1 | exact (le3 _ (by assumption)).1); intro _ _)); (try k_steps)))
      unfold Hold
      (rename Fr _ _ _ _ => kF); (rename News _ _ _ _ => kN)
      exact ⟨[], _, _, rfl, kF, kN, ⟨rfl, rfl⟩, List.forall_mem_nil _⟩
    case fin7 =>
      intro D6 h12 tk12 ys6 exs6 F12 N12 hown6 hy6 hD6
      have hx0 := hown6.none (fun _ _ _ h => h.2)
      subst hx0
      clear kF kN; (try clear gF2); (try clear gF); (try clear gN)
      dsimp only [List.nil_append] at N12 hD6
      have hdd6 : @Ne Nat dw D6 := hD6 (dw, od) (.head _)
      k_steps
      unfold Hold
      (rename Fr _ _ _ _ => kF); (rename News _ _ _ _ => kN)
      have hb6 := paired_bools (V := VIn (fun w y ex => y = Value.bool (Plain.look w due == some true) ∧ ex = []) []) (f := fun w : Wd => (Plain.look w due == some true)) (fun _ _ ⟨_, h, _⟩ => h.1) hy6
      k_dflt (refine' LSm.all_bools kF kN (by rfl) ⟨_, (kN (D6, LCg.lst ys6) (by k_mem)).1, rfl, _, rfl⟩ hb6 ?_)
      clear kF kN; (try clear F12); (try clear N12)
      intro h13 tk13 F13 N13
      k_steps
      unfold Hold
      (rename Fr _ _ _ _ => kF); (rename News _ _ _ _ => kN)
      k_dflt (refine' kda_set (knd := PySem.strKind _ _) (k := wdS w) kF kN ?U hP (strKind_is _ _ _ _) ?zz ?_)
      case U => k_updF
      case zz => (rw [sizeLine_eq, List.length_map, tabW_len, List.length_take]; omega)
      clear kF kN
      intro h14 od2 F14 N14 hod2
      k_steps
      show SEnd _ _ _ _ _ _ _ _ _ _ _ _
      refine SEnd.intro od2 (List.forall_mem_nil _) F14 (fun p hp => N14 p (.tail _ hp)) ?_ ?_ ?_ ?_ ?_
      · intro p hp
        rw [etl]
        simp only [Led, List.mem_cons, List.mem_append] at hp ⊢
        grind
      · intro p hp
        rw [etl]
        exact .tail _ (.tail _ (.tail _ (.tail _ (List.mem_append_right _ hp))))
      · intro p hp
        rcases List.mem_cons.mp hp with rfl | hp
        · exact hI (dw, od) (.head _)
        · exact hI p (.tail _ hp)
      · intro z hz _ _
        show (if _ then _ else _) = _
        rw [if_neg hz]
      · rw [stored_none' (by rw [due_fst]; intro hm; obtain ⟨a, ha, e⟩ := List.mem_map.mp hm; exact hfr (wdS_inj e ▸ ha))] at hod2
        have htk : List.take (i + 1) ws = List.take i ws ++ [w] := by rw [List.take_add_one, hw]; rfl
        rw [htk, tabW_snoc, dueK, List.map_append]
        rw [List.all_map] at hod2
        rw [show List.map (fun e : Wd × Bool => (wdS e.1, Value.bool e.2)) [(w, Plain.look w due == some true)] = [(wdS w, Value.bool (Plain.look w due == some true))] from rfl, hvw]
        exact hod2
  case done =>
    rintro o5 u5 h15 tk15 hP F15 N15
    have hol : out.length = ws.length := by rw [strs_len hS10, List.length_map]
    rw [hol, List.take_length] at hP
    clear F10 N10
    dsimp only [Led] at N15
    replace F15 : Fr _ s₁.heap.objs.size h15 _ := F15
    replace N15 : News _ s₁.heap.objs.size h15 _ := N15
    k_steps
    unfold Hold
    refine wpAny_call ?_
    (rename Fr _ _ _ _ => jF); (rename News _ _ _ _ => jN)
    k_dflt (refine' code_at (due_spec (lvs := lvs) (ls := leadsV a b c d) fB jF fX jN fT ?hk (.tail _ (.head _)) hlv rfl ?hlf ?h) ?b1 ?b2 ?b3 ?b4 ?b5)
    case b1 => exact rfl
    case b2 => exact rfl
    case b3 => exact rfl
    case b4 => exact Nat.le_of_ble_eq_true rfl
    case b5 => exact Nat.le_of_ble_eq_true rfl
    case hk => exact rfl
    case hlf =>
      intro l hl
      simp only [List.mem_cons, List.not_mem_nil, or_false] at hl
      rcases hl with rfl | rfl | rfl | rfl | rfl
      · exact fa.2.2.2.2.2
      · exact fb.2.2.2.2.2
      · exact fc.2.2.2.2.2
      · exact fd.2.2.2.2.2
      · exact fe.2.2.2.2.2
    case h =>
      intro dd od3 h16 tk16 F16 N16 hod3 hsys3
      clear jF jN
      rw [hdue] at hod3
      k_steps
      unfold Hold
      (rename Fr _ _ _ _ => kF); (rename News _ _ _ _ => kN)
      obtain ⟨hl5, hk5⟩ := ordered_done hT O
      have hdn : (due.map (·.1)).Nodup := by rw [← hdue]; exact dueT_nodup (dprAt (leadsV a b c d)) (i := 31) (Nat.le_refl _)
      refine due_eq (a := dw) (b := dd) (oa := o5) (ob := od3) (ta := tabW due ws) (tb := due) kN ?ma ?mb hsysw hsys3 hP hod3 ?hu hdn hl5 hk5 ?hfin
      case ma => exact List.mem_append_left _ (.head _)
      case mb => exact List.mem_append_right _ (.head _)
      case hu => (simp only [units_deeper, units_caller]; decide)
      case hfin =>
        refine ⟨?gw, GrownAt.of (ps := tb9) kN ?t1, GrownAt.of (ps := st.tb) kN ?t2, True.intro⟩
        case t1 => exact List.mem_append_left _ (.tail _ (.tail _ (.tail _ (.tail _ (by rw [ebl]; exact List.mem_append_right _ (.head _))))))
        case t2 => exact List.mem_append_left _ (.tail _ (.tail _ (.tail _ (.tail _ (by rw [ebl]; exact List.mem_append_right _ (.tail _ (.head _)))))))
        case gw =>
          refine goodW_bool kF (by assumption) (raisesW_false ?_) ?_
          · wrow_none_raised
          · wrow_post
theorem all_cut : ∀ tj kj z dm st tb9 h9 tk9 bl, Pcut tj kj z dm st tb9 h9 tk9 bl := by
  have h : Pcut tj kj z dm st tb9 h9 tk9 bl := at_cut
  delta tj kj z dm st tb9 h9 tk9 bl at h
  exact fun tj kj z dm st tb9 h9 tk9 bl => Classical.choose_spec ex_cut h ((tj, kj, z), (dm, st, tb9), (h9, tk9, bl))
end K_top3
theorem at_cut : type_of% (@Subtype.property _ _ K_top3.cut (no_implicit_lambda% K_top3.all_cut)) := no_implicit_lambda% (@Subtype.property _ _ K_top3.cut (no_implicit_lambda% K_top3.all_cut))
theorem all_cut : ∀ D h5 tk5 ys v_1 v_2 D2 h6 lvs v_4 tk z4 h7 fp4 wr4 St4 Mid4 D4 h8 tk8 ys4, Pcut D h5 tk5 ys v_1 v_2 D2 h6 lvs v_4 tk z4 h7 fp4 wr4 St4 Mid4 D4 h8 tk8 ys4 := by
  have h : Pcut D h5 tk5 ys v_1 v_2 D2 h6 lvs v_4 tk z4 h7 fp4 wr4 St4 Mid4 D4 h8 tk8 ys4 := at_cut
  delta D h5 tk5 ys v_1 v_2 D2 h6 lvs v_4 tk z4 h7 fp4 wr4 St4 Mid4 D4 h8 tk8 ys4 at h
  exact fun D h5 tk5 ys v_1 v_2 D2 h6 lvs v_4 tk z4 h7 fp4 wr4 St4 Mid4 D4 h8 tk8 ys4 => Classical.choose_spec ex_cut h ((D, h5, tk5, ys, v_1), (v_2, D2, h6, lvs, v_4), (tk, z4, h7, fp4, wr4), (St4, Mid4, D4, h8, tk8), ys4)
end K_top2
theorem at_cut : type_of% (@Subtype.property _ _ K_top2.cut (no_implicit_lambda% K_top2.all_cut)) := no_implicit_lambda% (@Subtype.property _ _ K_top2.cut (no_implicit_lambda% K_top2.all_cut))
theorem all_cut : ∀ w0 v_1 s₁ v_2 v_3 v_6 v_7 v_8 v_9 v_10 v_20 v_26 v_27 v_28 v_29 v_30 v_40 v_41 v_42 v_47 v_48 v_50 v_51 v_52 v_57 v_58 v_60 v_61 v_63 D1 ws1 h1 zs z2 h2 fp2 wr2 St2 Mid2 D3 h9 tk9 a b c d ta tb tc td, Pcut w0 v_1 s₁ v_2 v_3 v_6 v_7 v_8 v_9 v_10 v_20 v_26 v_27 v_28 v_29 v_30 v_40 v_41 v_42 v_47 v_48 v_50 v_51 v_52 v_57 v_58 v_60 v_61 v_63 D1 ws1 h1 zs z2 h2 fp2 wr2 St2 Mid2 D3 h9 tk9 a b c d ta tb tc td := by
  have h : Pcut w0 v_1 s₁ v_2 v_3 v_6 v_7 v_8 v_9 v_10 v_20 v_26 v_27 v_28 v_29 v_30 v_40 v_41 v_42 v_47 v_48 v_50 v_51 v_52 v_57 v_58 v_60 v_61 v_63 D1 ws1 h1 zs z2 h2 fp2 wr2 St2 Mid2 D3 h9 tk9 a b c d ta tb tc td := at_cut
  delta w0 v_1 s₁ v_2 v_3 v_6 v_7 v_8 v_9 v_10 v_20 v_26 v_27 v_28 v_29 v_30 v_40 v_41 v_42 v_47 v_48 v_50 v_51 v_52 v_57 v_58 v_60 v_61 v_63 D1 ws1 h1 zs z2 h2 fp2 wr2 St2 Mid2 D3 h9 tk9 a b c d ta tb tc td at h
  exact fun w0 v_1 s₁ v_2 v_3 v_6 v_7 v_8 v_9 v_10 v_20 v_26 v_27 v_28 v_29 v_30 v_40 v_41 v_42 v_47 v_48 v_50 v_51 v_52 v_57 v_58 v_60 v_61 v_63 D1 ws1 h1 zs z2 h2 fp2 wr2 St2 Mid2 D3 h9 tk9 a b c d ta tb tc td => Classical.choose_spec ex_cut h ((w0, v_1, s₁, v_2, v_3, v_6, v_7, v_8), (v_9, v_10, v_20, v_26, v_27, v_28, v_29, v_30), (v_40, v_41, v_42, v_47, v_48, v_50, v_51, v_52), (v_57, v_58, v_60, v_61, v_63, D1, ws1, h1), (zs, z2, h2, fp2, wr2, St2, Mid2, D3), (h9, tk9, a, b, c, d, ta, tb), (tc, td))
end K_top1
theorem top : type_of% (@Subtype.property _ _ K_top1.cut (no_implicit_lambda% K_top1.all_cut)) := no_implicit_lambda% (@Subtype.property _ _ K_top1.cut (no_implicit_lambda% K_top1.all_cut))
end Mine
end
theorem PySem.Challenge.cw_pg0196_01_holds : PySem.Challenge.rw_pg0196_01.Holds := by
  exact Mine.top
