import PyProof.Rows.All
import Wide.All
import OpenK.AllK
import Wide.FinOn
import PySem.Challenge.RW_ul0007_01
open PySem PySem.W PyProof.Rows
set_option Elab.async false

-- part M0
section
namespace Mine
open PySem PySem.Calls PyProof.Rows PySem.W

/-- a post made opaque -/
theorem abs_q {α : Type} {M : Model} {A : Around} {m : Sem α} {P : α → Shared → Prop} {E : Value → Shared → Prop} {s : Shared} (h : ∀ Q : α → Shared → Prop, (∀ a s', P a s' → Q a s') → wpAny M A m Q E s) :
    wpAny M A m P E s := h P fun _ _ x => x
noncomputable abbrev pg : Program := PySem.Challenge.pw_ul0007_01
noncomputable def df (i : Nat) : Str × Arguments × List Stmt × Scope := match pg.main.body[i]? with
  | some (.FunctionDef n a b _ _ _ sc _ _ _) => (n, a, b, sc)
  | _ => ("", ⟨[], [], none, [], [], none, []⟩, [], ⟨.function, [], false, false, []⟩)
noncomputable def nm (i : Nat) : Str := (df i).1
noncomputable def pr (i : Nat) : Arguments := (df i).2.1
noncomputable def bd (i : Nat) : List Stmt := (df i).2.2.1
noncomputable def sc (i : Nat) : Scope := (df i).2.2.2

noncomputable def idx (ns : List Str) (y : Str) : Nat := match ns with
  | [] => 0
  | n :: r => if y = n then 0 else idx r y + 1
noncomputable def slot (ns : List Str) (vals : List (Option Value)) (y : Str) : Option Value := (vals[idx ns y]?).join
theorem idx_lt {ns : List Str} {y : Str} : idx ns y < ns.length ↔ y ∈ ns := by
  induction ns with
  | nil => simp [idx]
  | cons n r ih =>
    unfold idx
    by_cases h : y = n
    · simp [h]
    · simp [h, ih]
theorem idx_inj {ns : List Str} {x y : Str} (hx : idx ns x < ns.length) (h : idx ns y = idx ns x) : y = x := by
  induction ns with
  | nil => simp [idx] at hx
  | cons n r ih =>
    unfold idx at h hx
    by_cases h1 : x = n
    · by_cases h2 : y = n
      · rw [h1, h2]
      · simp [h1, h2] at h
    · by_cases h2 : y = n
      · simp [h1, h2] at h
      · simp only [h1, h2, if_false, Nat.add_right_cancel_iff, List.length_cons, Nat.add_lt_add_iff_right] at h hx
        exact ih hx h
theorem slot_set {ns : List Str} {vals : List (Option Value)} {x : Str} {v : Value} (hl : vals.length = ns.length) (hx : idx ns x < ns.length) :
    (fun y => if y = x then some v else slot ns vals y) = slot ns (vals.set (idx ns x) (some v)) := by
  funext y
  unfold slot
  rw [List.getElem?_set]
  by_cases h : y = x
  · subst h
    have hx' : idx ns y < vals.length := hl ▸ hx
    simp [hx']
  · have : ¬ idx ns x = idx ns y := fun e => h (idx_inj hx e.symm)
    rw [if_neg h, if_neg this]

structure St (g : Heap) (L : Addr) (ns : List Str) (vals : List (Option Value)) (own : List (Addr × Obj)) (h : Heap) : Prop where
  isNs : h.Ns L (slot ns vals)
  len : vals.length = ns.length
  keep : ∀ b o, g.get? b = some o → h.get? b = some o
  gL : g.get? L = none
  isOwn : ∀ p ∈ own, h.get? p.1 = some p.2 ∧ p.1 ≠ L ∧ g.get? p.1 = none
  nd : (own.map (·.1)).Nodup

section
variable {g h h' : Heap} {L : Addr} {ns : List Str} {vals : List (Option Value)} {own : List (Addr × Obj)}
theorem St.setv {x : Str} {v : Value} (S : St g L ns vals own h) (hx : idx ns x < ns.length) (hn : h'.Ns L (fun y => if y = x then some v else slot ns vals y)) (hs : Heap.SameBut L h h') :
    St g L ns (vals.set (idx ns x) (some v)) own h' where
  isNs := by rw [slot_set S.len hx] at hn; exact hn
  len := by rw [List.length_set]; exact S.len
  keep := fun b o e => (hs.2 b (by intro he; subst he; rw [S.gL] at e; cases e)).trans (S.keep b o e)
  gL := S.gL
  isOwn := fun p hp => ⟨(hs.2 p.1 (S.isOwn p hp).2.1).trans (S.isOwn p hp).1, (S.isOwn p hp).2⟩
  nd := S.nd
/-- all kept: a call that turned nothing old -/
theorem St.keeps (S : St g L ns vals own h) (hk : ∀ b o, h.get? b = some o → h'.get? b = some o) : St g L ns vals own h' where
  isNs := S.isNs.keeps hk
  len := S.len
  keep := fun b o e => hk b o (S.keep b o e)
  gL := S.gL
  isOwn := fun p hp => ⟨hk _ _ (S.isOwn p hp).1, (S.isOwn p hp).2⟩
  nd := S.nd
theorem St.push (S : St g L ns vals own h) (o : Obj) (hf : o.isFreed = false := by rfl) : St g L ns vals ((h.objs.size, o) :: own) (h.push o) where
  isNs := S.isNs.push o
  len := S.len
  keep := fun b o' e => Heap.get?_push_of_some _ (S.keep b o' e)
  gL := S.gL
  isOwn := fun p hp => by
    rcases List.mem_cons.mp hp with rfl | hp
    · refine ⟨Heap.get?_push_size _ hf, Nat.ne_of_gt S.isNs.lt, ?_⟩
      cases hq : g.get? h.objs.size with
      | none => rfl
      | some o' => exact absurd (Heap.lt_size (S.keep _ _ hq)) (Nat.lt_irrefl _)
    · exact ⟨Heap.get?_push_of_some _ (S.isOwn p hp).1, (S.isOwn p hp).2⟩
  nd := by
    rw [List.map_cons, List.nodup_cons]
    refine ⟨fun hm => ?_, S.nd⟩
    obtain ⟨q, hq, e⟩ := List.mem_map.mp hm
    exact absurd (Heap.lt_size (S.isOwn q hq).1) (by rw [e]; exact Nat.lt_irrefl _)
theorem St.drop (S : St g L ns vals own h) {own' : List (Addr × Obj)} (hs : own'.Sublist own) : St g L ns vals own' h where
  isNs := S.isNs
  len := S.len
  keep := S.keep
  gL := S.gL
  isOwn := fun p hp => S.isOwn p (hs.subset hp)
  nd := (hs.map _).nodup S.nd
theorem St.upd {a : Addr} {o o' : Obj} {pre post : List (Addr × Obj)} (S : St g L ns vals (pre ++ (a, o) :: post) h) (hs : Heap.SameBut a h h') (ho : h'.get? a = some o') : St g L ns vals (pre ++ (a, o') :: post) h' where
  isNs := S.isNs.sameBut hs (fun e => (S.isOwn (a, o) (by simp)).2.1 e.symm)
  len := S.len
  keep := fun b o e => (hs.2 b (by intro he; subst he; rw [(S.isOwn (b, _) (List.mem_append_right _ (.head _))).2.2] at e; cases e)).trans (S.keep b o e)
  gL := S.gL
  isOwn := fun p hp => by
    have hnd := S.nd
    rw [List.map_append, List.map_cons, List.nodup_append, List.nodup_cons] at hnd
    rcases List.mem_append.mp hp with h1 | h1
    · have hne : p.1 ≠ a := hnd.2.2 _ (List.mem_map.mpr ⟨p, h1, rfl⟩) _ (.head _)
      have := S.isOwn p (List.mem_append_left _ h1)
      exact ⟨(hs.2 _ hne).trans this.1, this.2⟩
    · rcases List.mem_cons.mp h1 with rfl | h1
      · exact ⟨ho, (S.isOwn (a, o) (by simp)).2⟩
      · have hne : p.1 ≠ a := fun e => hnd.2.1.1 (e ▸ List.mem_map.mpr ⟨p, h1, rfl⟩)
        have := S.isOwn p (List.mem_append_right _ (.tail _ h1))
        exact ⟨(hs.2 _ hne).trans this.1, this.2⟩
  nd := by have := S.nd; simpa using this
end

/-- what is known of the text's own defs and of the built-in names -/
structure IsFn (g : Heap) (mg : Str → Option Value) (i : Nat) (a : Addr) : Prop where
  at_ : mg (nm i) = some (.ref a)
  obj : ∃ o pm cd doc, g.get? a = some o ∧ o.data = .func (docDef (nm i) (pr i) (bd i) (sc i) pm cd doc) ∧ g.CodeRec cd (nm i)
theorem IsFn.keeps {g g' : Heap} {mg : Str → Option Value} {i : Nat} {a : Addr} (x : IsFn g mg i a) (hk : ∀ b o, g.get? b = some o → g'.get? b = some o) : IsFn g' mg i a :=
  ⟨x.at_, let ⟨o, pm, cd, doc, h1, h2, h3⟩ := x.obj; ⟨o, pm, cd, doc, hk _ _ h1, h2, h3.keeps hk⟩⟩

structure Base (fa : Nat → Addr) (mg mb : Str → Option Value) (g : Heap) : Prop where
  gns : g.Ns mainGlobals mg
  bns : g.Ns builtinsNs mb
  nolimit : g.NoLimit
  fn : ∀ i ∈ [1, 2, 3, 6, 8, 9, 10, 11, 13, 14, 16, 17, 18, 19, 20], IsFn g mg i (fa i)
  none_ : ∀ x ∈ (["len", "chr", "ord", "range", "enumerate", "reversed", "sorted", "sum", "divmod", "ZeroDivisionError"] : List Str), mg x = none
  bt : ∀ x ∈ (["len", "chr", "ord", "range", "enumerate", "reversed", "sorted", "sum", "divmod", "ZeroDivisionError"] : List Str), mb x = bootBuiltins x
  lim : ∃ t, mg "_DIV_LIMIT" = some (.int 4000 t)
  nb : NoneBooked g
theorem Base.keeps {fa : Nat → Addr} {mg mb : Str → Option Value} {g g' : Heap} (B : Base fa mg mb g) (hk : ∀ b o, g.get? b = some o → g'.get? b = some o) : Base fa mg mb g' :=
  ⟨B.gns.keeps hk, B.bns.keeps hk, B.nolimit.keeps hk, fun i hi => (B.fn i hi).keeps hk, B.none_, B.bt, B.lim, let ⟨mc, h1, h2⟩ := B.nb; ⟨mc, h1.keeps hk, h2⟩⟩
end Mine
end
-- part M1
section
set_option maxRecDepth 100000
set_option linter.unusedVariables false
set_option maxHeartbeats 4000000
namespace Mine
open PySem PySem.Calls PyProof.Rows PySem.W

noncomputable def lcS (s : Scope) : List Str := s.names.filterMap fun p => if p.2 = .local then some p.1 else none
noncomputable abbrev lc (i : Nat) : List Str := lcS (sc i)
noncomputable abbrev LocS (s : Scope) (x : Str) (k : Nat) : Prop := s.names.lookup x = some .local ∧ idx (lcS s) x = k ∧ k < (lcS s).length ∧ (x == ("__debug__" : Str)) = false ∧ s.kind = .function
noncomputable abbrev LocF (i : Nat) (x : Str) (k : Nat) : Prop := LocS (sc i) x k
noncomputable abbrev GlbS (s : Scope) (x : Str) : Prop := s.names.lookup x = some .globalImplicit ∧ (x == ("__debug__" : Str)) = false ∧ s.kind = .function
noncomputable abbrev GlbF (i : Nat) (x : Str) : Prop := GlbS (sc i) x
/-- what of a block's environment the rules ask -/
structure EnvIs (env : Env) (s : Scope) (L : Addr) : Prop where
  scope : env.scope = s
  locals : env.locals = L
  globals : env.globals = mainGlobals
  builtins : env.builtins = builtinsNs
theorem EnvIs.ofF (n : Str) (s : Scope) (L a : Addr) (cd : Value) : EnvIs (envOf n s L a cd) s L := ⟨rfl, rfl, rfl, rfl⟩
theorem EnvIs.ofC (n : Str) (s : Scope) (L a : Addr) (cd : Value) : EnvIs (envOfC n s L a cd) s L := ⟨rfl, rfl, rfl, rfl⟩
theorem lc1_len : (lc 1).length = 4 := by decide +kernel
theorem v1_addr : LocF 1 "addr" 0 := by decide +kernel
theorem v1_pos : LocF 1 "pos" 1 := by decide +kernel
theorem v1_escape : LocF 1 "escape" 2 := by decide +kernel
theorem v1_ch : LocF 1 "ch" 3 := by decide +kernel
theorem g1_enumerate : GlbF 1 "enumerate" := by decide +kernel
theorem lc2_len : (lc 2).length = 6 := by decide +kernel
theorem v2_addr : LocF 2 "addr" 0 := by decide +kernel
theorem v2_start : LocF 2 "start" 1 := by decide +kernel
theorem v2_open_pos : LocF 2 "open_pos" 2 := by decide +kernel
theorem v2_result : LocF 2 "result" 3 := by decide +kernel
theorem v2_pos : LocF 2 "pos" 4 := by decide +kernel
theorem v2_ch : LocF 2 "ch" 5 := by decide +kernel
theorem g2__iter_escaped_chars : GlbF 2 "_iter_escaped_chars" ∧ nm 1 = "_iter_escaped_chars" := by decide +kernel
theorem g2_len : GlbF 2 "len" := by decide +kernel
theorem lc3_len : (lc 3).length = 4 := by decide +kernel
theorem v3_addr : LocF 3 "addr" 0 := by decide +kernel
theorem v3_opens : LocF 3 "opens" 1 := by decide +kernel
theorem v3_pos : LocF 3 "pos" 2 := by decide +kernel
theorem v3_ch : LocF 3 "ch" 3 := by decide +kernel
theorem g3__strip_quoted_realnames : GlbF 3 "_strip_quoted_realnames" ∧ nm 2 = "_strip_quoted_realnames" := by decide +kernel
theorem g3__iter_escaped_chars : GlbF 3 "_iter_escaped_chars" ∧ nm 1 = "_iter_escaped_chars" := by decide +kernel
theorem lc6_len : (lc 6).length = 11 := by decide +kernel
theorem v6_a : LocF 6 "a" 0 := by decide +kernel
theorem v6_b : LocF 6 "b" 1 := by decide +kernel
theorem v6_n : LocF 6 "n" 2 := by decide +kernel
theorem v6_pad : LocF 6 "pad" 3 := by decide +kernel
theorem v6_half_n : LocF 6 "half_n" 4 := by decide +kernel
theorem v6_mask : LocF 6 "mask" 5 := by decide +kernel
theorem v6_b1 : LocF 6 "b1" 6 := by decide +kernel
theorem v6_b2 : LocF 6 "b2" 7 := by decide +kernel
theorem v6_q1 : LocF 6 "q1" 8 := by decide +kernel
theorem v6_r : LocF 6 "r" 9 := by decide +kernel
theorem v6_q2 : LocF 6 "q2" 10 := by decide +kernel
theorem g6__DIV_LIMIT : GlbF 6 "_DIV_LIMIT" := by decide +kernel
theorem g6_divmod : GlbF 6 "divmod" := by decide +kernel
theorem g6__div3n2n : GlbF 6 "_div3n2n" := by decide +kernel
theorem lc8_len : (lc 8).length = 1 := by decide +kernel
theorem v8_a : LocF 8 "a" 0 := by decide +kernel
theorem g8_len : GlbF 8 "len" := by decide +kernel
theorem lc9_len : (lc 9).length = 0 := by decide +kernel
theorem g9_len : GlbF 9 "len" := by decide +kernel
theorem lc10_len : (lc 10).length = 9 := by decide +kernel
theorem v10_a : LocF 10 "a" 0 := by decide +kernel
theorem v10_b : LocF 10 "b" 1 := by decide +kernel
theorem v10_n : LocF 10 "n" 2 := by decide +kernel
theorem v10_a_digits : LocF 10 "a_digits" 3 := by decide +kernel
theorem v10_r : LocF 10 "r" 4 := by decide +kernel
theorem v10_q_digits : LocF 10 "q_digits" 5 := by decide +kernel
theorem v10_a_digit : LocF 10 "a_digit" 6 := by decide +kernel
theorem v10_q_digit : LocF 10 "q_digit" 7 := by decide +kernel
theorem v10_q : LocF 10 "q" 8 := by decide +kernel
theorem g10__int2digits : GlbF 10 "_int2digits" ∧ nm 8 = "_int2digits" := by decide +kernel
theorem g10_reversed : GlbF 10 "reversed" := by decide +kernel
theorem g10__div2n1n : GlbF 10 "_div2n1n" ∧ nm 6 = "_div2n1n" := by decide +kernel
theorem g10__digits2int : GlbF 10 "_digits2int" ∧ nm 9 = "_digits2int" := by decide +kernel
theorem lc11_len : (lc 11).length = 4 := by decide +kernel
theorem v11_a : LocF 11 "a" 0 := by decide +kernel
theorem v11_b : LocF 11 "b" 1 := by decide +kernel
theorem v11_q : LocF 11 "q" 2 := by decide +kernel
theorem v11_r : LocF 11 "r" 3 := by decide +kernel
theorem g11_ZeroDivisionError : GlbF 11 "ZeroDivisionError" := by decide +kernel
theorem g11_int_divmod : GlbF 11 "int_divmod" ∧ nm 11 = "int_divmod" := by decide +kernel
theorem g11__divmod_pos : GlbF 11 "_divmod_pos" ∧ nm 10 = "_divmod_pos" := by decide +kernel
theorem lc13_len : (lc 13).length = 2 := by decide +kernel
theorem v13_a : LocF 13 "a" 0 := by decide +kernel
theorem v13_b : LocF 13 "b" 1 := by decide +kernel
theorem lc14_len : (lc 14).length = 1 := by decide +kernel
theorem v14_s : LocF 14 "s" 0 := by decide +kernel
theorem lc16_len : (lc 16).length = 6 := by decide +kernel
theorem v16_sums : LocF 16 "sums" 0 := by decide +kernel
theorem v16_count : LocF 16 "count" 1 := by decide +kernel
theorem v16_names : LocF 16 "names" 2 := by decide +kernel
theorem v16_k : LocF 16 "k" 3 := by decide +kernel
theorem v16_cell : LocF 16 "cell" 4 := by decide +kernel
theorem v16_last : LocF 16 "last" 5 := by decide +kernel
theorem g16_chr : GlbF 16 "chr" := by decide +kernel
theorem g16_range : GlbF 16 "range" := by decide +kernel
theorem g16_ord : GlbF 16 "ord" := by decide +kernel
theorem lc17_len : (lc 17).length = 2 := by decide +kernel
theorem v17_names : LocF 17 "names" 0 := by decide +kernel
theorem v17_orders : LocF 17 "orders" 1 := by decide +kernel
theorem lc18_len : (lc 18).length = 3 := by decide +kernel
theorem v18_order : LocF 18 "order" 0 := by decide +kernel
theorem v18_least : LocF 18 "least" 1 := by decide +kernel
theorem v18_k : LocF 18 "k" 2 := by decide +kernel
theorem g18_range : GlbF 18 "range" := by decide +kernel
theorem g18_len : GlbF 18 "len" := by decide +kernel
theorem g18__strcoll : GlbF 18 "_strcoll" ∧ nm 13 = "_strcoll" := by decide +kernel
theorem g18__law_hung : GlbF 18 "_law_hung" ∧ nm 18 = "_law_hung" := by decide +kernel
theorem lc19_len : (lc 19).length = 2 := by decide +kernel
theorem v19_rows : LocF 19 "rows" 0 := by decide +kernel
theorem v19_place : LocF 19 "place" 1 := by decide +kernel
theorem g19_range : GlbF 19 "range" := by decide +kernel
theorem lc20_len : (lc 20).length = 5 := by decide +kernel
theorem v20_row : LocF 20 "row" 0 := by decide +kernel
theorem v20_at : LocF 20 "at" 1 := by decide +kernel
theorem v20_opening : LocF 20 "opening" 2 := by decide +kernel
theorem v20_pairs : LocF 20 "pairs" 3 := by decide +kernel
theorem v20_end : LocF 20 "end" 4 := by decide +kernel
theorem g20_range : GlbF 20 "range" := by decide +kernel
theorem g20_len : GlbF 20 "len" := by decide +kernel
theorem g20__check_parenthesis : GlbF 20 "_check_parenthesis" ∧ nm 3 = "_check_parenthesis" := by decide +kernel
theorem lc21_len : (lc 21).length = 25 := by decide +kernel
theorem v21_sums : LocF 21 "sums" 0 := by decide +kernel
theorem v21_count : LocF 21 "count" 1 := by decide +kernel
theorem v21_opening : LocF 21 "opening" 2 := by decide +kernel
theorem v21_x : LocF 21 "x" 3 := by decide +kernel
theorem v21_names : LocF 21 "names" 4 := by decide +kernel
theorem v21_i : LocF 21 "i" 5 := by decide +kernel
theorem v21_j : LocF 21 "j" 6 := by decide +kernel
theorem v21_hung : LocF 21 "hung" 7 := by decide +kernel
theorem v21_whole : LocF 21 "whole" 8 := by decide +kernel
theorem v21_every : LocF 21 "every" 9 := by decide +kernel
theorem v21_odd : LocF 21 "odd" 10 := by decide +kernel
theorem v21_total : LocF 21 "total" 11 := by decide +kernel
theorem v21_grown : LocF 21 "grown" 12 := by decide +kernel
theorem v21_row : LocF 21 "row" 13 := by decide +kernel
theorem v21_told : LocF 21 "told" 14 := by decide +kernel
theorem v21_longest : LocF 21 "longest" 15 := by decide +kernel
theorem v21_shortest : LocF 21 "shortest" 16 := by decide +kernel
theorem v21_weight : LocF 21 "weight" 17 := by decide +kernel
theorem v21_at : LocF 21 "at" 18 := by decide +kernel
theorem v21_pairs : LocF 21 "pairs" 19 := by decide +kernel
theorem v21_ways : LocF 21 "ways" 20 := by decide +kernel
theorem v21_rest : LocF 21 "rest" 21 := by decide +kernel
theorem v21_turned : LocF 21 "turned" 22 := by decide +kernel
theorem v21_lower : LocF 21 "lower" 23 := by decide +kernel
theorem v21_times : LocF 21 "times" 24 := by decide +kernel
theorem g21_range : GlbF 21 "range" := by decide +kernel
theorem g21__law_names : GlbF 21 "_law_names" ∧ nm 16 = "_law_names" := by decide +kernel
theorem g21__strcoll : GlbF 21 "_strcoll" ∧ nm 13 = "_strcoll" := by decide +kernel
theorem g21_sorted : GlbF 21 "sorted" := by decide +kernel
theorem g21__strxfrm : GlbF 21 "_strxfrm" ∧ nm 14 = "_strxfrm" := by decide +kernel
theorem g21__law_orders : GlbF 21 "_law_orders" ∧ nm 17 = "_law_orders" := by decide +kernel
theorem g21__law_rows : GlbF 21 "_law_rows" ∧ nm 19 = "_law_rows" := by decide +kernel
theorem g21__check_parenthesis : GlbF 21 "_check_parenthesis" ∧ nm 3 = "_check_parenthesis" := by decide +kernel
theorem g21__law_pairs : GlbF 21 "_law_pairs" ∧ nm 20 = "_law_pairs" := by decide +kernel
theorem g21_int_divmod : GlbF 21 "int_divmod" ∧ nm 11 = "int_divmod" := by decide +kernel
theorem g21_ZeroDivisionError : GlbF 21 "ZeroDivisionError" := by decide +kernel

section
variable {w : World} {A : Around} {E : Value → Shared → Prop} {h : Heap} {gn : Array GenState} {d : Drawn} {t : Nat} {os : OsState} {g : Heap} {L a : Addr} {i : Nat} {vals : List (Option Value)} {own : List (Addr × Obj)}
  {fa : Nat → Addr} {mg mb : Str → Option Value} {n : Str} {cd : Value} {pos : Pos} {sco : Scope} {env : Env}

theorem r_ldn {x : Str} {k : Nat} {v : Value} {Q : Value → Shared → Prop} (S : St g L (lcS sco) vals own h) (q : LocS sco x k) (hv : vals[k]? = some (some v)) (c : Q v ⟨h, gn, d, t, os⟩) (V : EnvIs env sco L := by exact ⟨rfl, rfl, rfl, rfl⟩) :
    wpAny (model pg w) A (loadName env x) Q E ⟨h, gn, d, t, os⟩ :=
  wpAny_loadName_local (env := env) (by rw [V.scope]; exact q.2.2.2.2) (by show env.scope.names.lookup x = _; rw [V.scope]; exact q.1) (by rw [V.locals]; exact S.isNs) (by unfold slot; rw [q.2.1, hv]; rfl) c
theorem r_loc {x : Str} {k : Nat} {v : Value} {Q : Value → Shared → Prop} (S : St g L (lcS sco) vals own h) (q : LocS sco x k) (hv : vals[k]? = some (some v)) (c : Q v ⟨h, gn, d, t, os⟩) (V : EnvIs env sco L := by exact ⟨rfl, rfl, rfl, rfl⟩) :
    wpAny (model pg w) A (eval (.Name x pos) env) Q E ⟨h, gn, d, t, os⟩ :=
  wpAny_Name (r_ldn S q hv c V) q.2.2.2.1
theorem r_st {x : Str} {k : Nat} {v : Value} {Q : Unit → Shared → Prop} (S : St g L (lcS sco) vals own h) (q : LocS sco x k)
    (c : ∀ h' t', St g L (lcS sco) (vals.set k (some v)) own h' → Heap.ExtBut L h h' → Q () ⟨h', gn, d, t', os⟩) (V : EnvIs env sco L := by exact ⟨rfl, rfl, rfl, rfl⟩) :
    wpAny (model pg w) A (storeName env x v) Q E ⟨h, gn, d, t, os⟩ :=
  wpAny_storeName_local (env := env) (by show env.scope.names.lookup x = _; rw [V.scope]; exact q.1) (by rw [V.locals]; exact S.isNs) (fun h' hn hs => by
      rw [V.locals] at hn hs
      exact c h' _ (by have := S.setv (by rw [q.2.1]; exact q.2.2.1) hn hs; rw [q.2.1] at this; exact this) (Heap.SameBut.extBut hs))
    (by rw [V.scope, q.2.2.2.2]; rfl)

noncomputable abbrev BtF (x : Str) (v : Value) : Prop := x ∈ (["len", "chr", "ord", "range", "enumerate", "reversed", "sorted", "sum", "divmod", "ZeroDivisionError"] : List Str) ∧ bootBuiltins x = some v
theorem b_len : BtF "len" (.builtin "len") := by decide +kernel
theorem b_chr : BtF "chr" (.builtin "chr") := by decide +kernel
theorem b_ord : BtF "ord" (.builtin "ord") := by decide +kernel
theorem b_range : BtF "range" (.type "range") := by decide +kernel
theorem b_enumerate : BtF "enumerate" (.type "enumerate") := by decide +kernel
theorem b_reversed : BtF "reversed" (.type "reversed") := by decide +kernel
theorem b_sorted : BtF "sorted" (.builtin "sorted") := by decide +kernel
theorem b_sum : BtF "sum" (.builtin "sum") := by decide +kernel
theorem b_divmod : BtF "divmod" (.builtin "divmod") := by decide +kernel
theorem b_ZeroDivisionError : BtF "ZeroDivisionError" (.type "ZeroDivisionError") := by decide +kernel
noncomputable abbrev fnIds : List Nat := [1, 2, 3, 6, 8, 9, 10, 11, 13, 14, 16, 17, 18, 19, 20]
theorem r_fn {x : Str} {j : Nat} {Q : Value → Shared → Prop} (S : St g L (lcS sco) vals own h) (B : Base fa mg mb g) (q : GlbS sco x ∧ nm j = x) (hi : j ∈ fnIds)
    (c : Q (.ref (fa j)) ⟨h, gn, d, t, os⟩) (V : EnvIs env sco L := by exact ⟨rfl, rfl, rfl, rfl⟩) : wpAny (model pg w) A (eval (.Name x pos) env) Q E ⟨h, gn, d, t, os⟩ := by
  obtain ⟨q, rfl⟩ := q
  exact Name_function_global (env := env) (by rw [V.scope]; exact q.2.2) (by show env.scope.names.lookup _ = _; rw [V.scope]; exact q.1) (loadGlobal_global (env := env) (by rw [V.globals]; exact B.gns.keeps S.keep) (B.fn j hi).at_ c) q.2.1
theorem r_bt {x : Str} {v : Value} {Q : Value → Shared → Prop} (S : St g L (lcS sco) vals own h) (B : Base fa mg mb g) (q : GlbS sco x) (b : BtF x v)
    (c : Q v ⟨h, gn, d, t, os⟩) (V : EnvIs env sco L := by exact ⟨rfl, rfl, rfl, rfl⟩) : wpAny (model pg w) A (eval (.Name x pos) env) Q E ⟨h, gn, d, t, os⟩ :=
  Name_function_global (env := env) (by rw [V.scope]; exact q.2.2) (by show env.scope.names.lookup _ = _; rw [V.scope]; exact q.1) (loadGlobal_builtin (env := env) (by rw [V.globals]; exact B.gns.keeps S.keep) (B.none_ x b.1) (by rw [V.builtins]; exact B.bns.keeps S.keep) ((B.bt x b.1).trans b.2) c) q.2.1

theorem c_int {k : Nat} {j : Int} {env : Env} {Q : Value → Shared → Prop} (c : ∀ t', Q (.int j t) ⟨h, gn, d, t', os⟩) : wpAny (model pg w) A (eval (.Constant (.int j) k pos) env) Q E ⟨h, gn, d, t, os⟩ := wpAny_Constant_int (c _)
theorem c_str {k : Nat} {x : Str} {env : Env} {Q : Value → Shared → Prop} (c : ∀ t', Q (.str x t) ⟨h, gn, d, t', os⟩) : wpAny (model pg w) A (eval (.Constant (.str x) k pos) env) Q E ⟨h, gn, d, t, os⟩ := Constant_str (c _)
theorem c_bool {k : Nat} {b : Bool} {env : Env} {Q : Value → Shared → Prop} (c : Q (.bool b) ⟨h, gn, d, t, os⟩) : wpAny (model pg w) A (eval (.Constant (.bool b) k pos) env) Q E ⟨h, gn, d, t, os⟩ := fun _ _ _ => c
theorem c_none {k : Nat} {env : Env} {Q : Value → Shared → Prop} (c : Q .none ⟨h, gn, d, t, os⟩) : wpAny (model pg w) A (eval (.Constant .none k pos) env) Q E ⟨h, gn, d, t, os⟩ := fun _ _ _ => c

/-- the start of a def's block -/
noncomputable def start (i : Nat) (args : List Value) : List (Option Value) := (lc i).map fun y => (((pr i).args.map (·.arg)).zip args).reverse.lookup y
theorem slot_map (ns : List Str) (f : Str → Option Value) (hf : ∀ y, y ∉ ns → f y = none) : slot ns (ns.map f) = f := by
  funext y
  unfold slot
  by_cases hy : y ∈ ns
  · have hlt := idx_lt.mpr hy
    have key : ∀ ns : List Str, y ∈ ns → ns[idx ns y]? = some y := by
      intro ns
      induction ns with
      | nil => intro h; simp at h
      | cons m r ih =>
        intro h
        unfold idx
        by_cases e : y = m
        · simp [e]
        · rw [if_neg e, List.getElem?_cons_succ]
          exact ih ((List.mem_cons.mp h).resolve_left e)
    rw [List.getElem?_map, key ns hy]; rfl
  · have hlt : ¬ idx ns y < ns.length := fun h => hy (idx_lt.mp h)
    rw [List.getElem?_eq_none (by rw [List.length_map]; lia), hf y hy]; rfl
/-- the facts about a def that a call asks -/
noncomputable abbrev DefOk (i : Nat) : Prop := (sc i).isCoroutine = false ∧ (sc i).isGenerator = false ∧ (sc i).kind = .function ∧ (∀ x ∈ (sc i).names, x.2 ≠ .cell) ∧ (∀ x ∈ (pr i).args, (sc i).names.lookup x.arg = some .local ∧ x.arg ∈ lc i)
theorem zip_mem {α β : Type} {l : List α} {r : List β} {x : α × β} (h : x ∈ l.zip r) : x.1 ∈ l := (List.of_mem_zip h).1
theorem lookup_rev_none {l : List (Str × Value)} {y : Str} (h : ∀ p ∈ l, p.1 ≠ y) : l.reverse.lookup y = none := by
  rw [List.lookup_eq_none_iff]
  intro p hp
  have := h p (List.mem_reverse.mp hp)
  simpa [bne_iff_ne] using fun e => this e.symm
theorem enter {R : Result → Shared → Prop} {args : List Value} (B : Base fa mg mb h) (hi : i ∈ fnIds) (q : DefOk i) (hroom : A.depth < recursionLimit)
    (hbind : ∀ pm cd doc, bindArgs (docDef (nm i) (pr i) (bd i) (sc i) pm cd doc) ⟨args, []⟩ = pure (((pr i).args.map (·.arg)).zip args))
    (c : ∀ L cd h' t', t ≤ t' → h.objs.size ≤ L → St h L (lc i) (start i args) [] h' → wpAny (model pg w) (A.deeper (envOf (nm i) (sc i) L (fa i) cd)) (execs (bd i) (envOf (nm i) (sc i) L (fa i) cd))
        (fun f s' => R (.ok (.ret (match f with | .ret v => v | _ => .none))) s') (fun _ _ => False) ⟨h', gn, d, t', os⟩) :
    codeAny (model pg w) A (.call (.ref (fa i)) ⟨args, []⟩) R ⟨h, gn, d, t, os⟩ := by
  obtain ⟨o, pm, cd, doc, ho, hd, hcr⟩ := (B.fn i hi).obj
  obtain ⟨q1, q2, q3, q4, q5⟩ := q
  refine call_plain_ret (s := ⟨h, gn, d, t, os⟩) hroom ho hd B.nolimit hcr (hbind _ _ _) ?_ (fun h₁ F => ?_) q1 q2 q3 q4
  · intro x hx
    obtain ⟨p, hp, e⟩ := List.mem_map.mp (zip_mem hx)
    rw [← e]; exact (q5 p hp).1
  · refine c h.objs.size cd h₁ _ (Nat.le_add_right _ _) (Nat.le_refl _) ⟨?_, by rw [start, List.length_map], F.keep, ?_, (fun _ hp => by cases hp), by simp⟩
    · have := F.ns
      rw [start, slot_map _ _ fun y hy => ?_]
      · exact this
      · refine lookup_rev_none fun p hp e => hy ?_
        obtain ⟨p', hp', e'⟩ := List.mem_map.mp (zip_mem hp)
        rw [← e, ← e']; exact (q5 p' hp').2
    · cases hq : h.get? h.objs.size with
      | none => rfl
      | some o' => exact absurd (Heap.lt_size hq) (Nat.lt_irrefl _)

theorem St.moved {ns : List Str} {h' : Heap} {wr : List Addr} (S : St g L ns vals own h) (hk : ∀ b o, b ∉ wr → h.get? b = some o → h'.get? b = some o) (hL : L ∉ wr) (hg : ∀ b ∈ wr, g.get? b = none) (ho : ∀ p ∈ own, p.1 ∉ wr) : St g L ns vals own h' where
  isNs := S.isNs.at' fun o e => hk L o hL e
  len := S.len
  keep := fun b o e => hk b o (fun hm => by rw [hg b hm] at e; cases e) (S.keep b o e)
  gL := S.gL
  isOwn := fun p hp => ⟨hk _ _ (ho p hp) (S.isOwn p hp).1, (S.isOwn p hp).2⟩
  nd := S.nd

theorem asg2 {x1 x2 : Str} {p1 p2 : Pos} {k k1 k2 : Nat} {T : Addr} {v1 v2 : Value} {Q : Unit → Shared → Prop} (hh : A.handled = none) (S : St g L (lcS sco) vals own h) (hT : h.IsTuple T #[v1, v2]) (q1 : LocS sco x1 k1) (q2 : LocS sco x2 k2)
    (c : ∀ h' t', St g L (lcS sco) ((vals.set k1 (some v1)).set k2 (some v2)) own h' → Heap.ExtBut L h h' → Q () ⟨h', gn, d, t', os⟩) (V : EnvIs env sco L := by exact ⟨rfl, rfl, rfl, rfl⟩) :
    wpAny (model pg w) A (assign (.Tuple [.Name x1 p1, .Name x2 p2] k pos) env (.ref T)) Q E ⟨h, gn, d, t, os⟩ := by
  refine wpAny_assign_Tuple (s := ⟨h, gn, d, t, os⟩) hh hT rfl rfl fun h₁ hx₁ => ?_
  replace hx₁ : Heap.ExtBut h.objs.size h h₁ := hx₁
  have hk₁ : ∀ b o, h.get? b = some o → h₁.get? b = some o := fun b o e => hx₁ b o (Nat.ne_of_lt (Heap.lt_size e)) e
  have S₁ := S.keeps hk₁
  show wpAny _ A (do holding [v2] (assign (.Name x1 p1) env v1); do holding [] (assign (.Name x2 p2) env v2); pure ()) _ _ _
  refine wpAny_bind (wpAny_holding (wpAny_assign_Name (r_st S₁ q1 (fun h₂ t₂ S₂ e₂ => ?_) V)))
  refine wpAny_bind (wpAny_holding (wpAny_assign_Name (r_st S₂ q2 (fun h₃ t₃ S₃ e₃ => wpAny_pure ?_) V)))
  exact c _ _ S₃ fun b o hb e => e₃ b o hb (e₂ b o hb (hk₁ b o e))
end
end Mine
end
-- part M1b
section
set_option maxRecDepth 100000
set_option linter.unusedVariables false
set_option maxHeartbeats 4000000
namespace Mine
open PyProof PySem PySem.Calls PyProof.Rows PySem.W PySem.Builtin.Str
noncomputable def notStar : PySem.Expr → Bool
  | .Starred _ _ => false
  | _ => true
theorem star1 {e : PySem.Expr} {rest : List PySem.Expr} {env : Env} (h : notStar e = true) : starEach (e :: rest) env = (false, eval e env) :: starEach rest env := by
  cases e <;> first | rfl | cases h
theorem nostar {es : List PySem.Expr} {env : Env} {pos : Pos} (h : es.all notStar = true) : (backTo pos (starEach es env)).any (·.1) = false := by
  induction es with
  | nil => rfl
  | cons e r ih =>
    rw [List.all_cons, Bool.and_eq_true] at h
    rw [star1 h.1]
    show (false || (backTo pos (starEach r env)).any (·.1)) = false
    rw [ih h.2]; rfl
section
variable {M : Model} {A : Around} {E : Value → Shared → Prop} {s : Shared} {env : Env} {pos : Pos}
theorem cw_type {T : String} {e : PySem.Expr} {rest : List PySem.Expr} {Q : Value → Shared → Prop} (h : wpAny M A (spliced (backTo pos (starEach (e :: rest) env))) (fun vs s₁ => wpAny M A (call (.type T) vs) Q E s₁) E s)
    (hn : (e :: rest).all notStar = true := by rfl) : wpAny M A (callWith pos (.type T) [] (backTo pos (starEach (e :: rest) env)) []) Q E s := by
  rw [List.all_cons, Bool.and_eq_true] at hn
  exact callWith_type1 h (star1 hn.1) (nostar hn.2)
theorem cw_bt {id : String} {e : PySem.Expr} {rest : List PySem.Expr} {Q : Value → Shared → Prop} (h : wpAny M A (spliced (backTo pos (starEach (e :: rest) env))) (fun vs s₁ => wpAny M A (call (.builtin id) vs) Q E s₁) E s)
    (hn : (e :: rest).all notStar = true := by rfl) : wpAny M A (callWith pos (.builtin id) [] (backTo pos (starEach (e :: rest) env)) []) Q E s := by
  rw [List.all_cons, Bool.and_eq_true] at hn
  exact callWith_builtin1 h (star1 hn.1) (nostar hn.2)
theorem cw_meth {id : String} {first : List Value} {e : PySem.Expr} {rest : List PySem.Expr} {Q : Value → Shared → Prop} (h : wpAny M A (spliced (backTo pos (starEach (e :: rest) env))) (fun vs s₁ => wpAny M A (call (.builtin id) (first ++ vs)) Q E s₁) E s)
    (hn : (e :: rest).all notStar = true := by rfl) : wpAny M A (callWith pos (.builtin id) first (backTo pos (starEach (e :: rest) env)) []) Q E s := by
  rw [List.all_cons, Bool.and_eq_true] at hn
  exact callWith_method1 h (star1 hn.1) (nostar hn.2)
theorem acons {e : PySem.Expr} {rest : List PySem.Expr} {Q : List Value → Shared → Prop} (h : wpAny M A (eval e env) (fun v s₁ => wpAny M A (spliced (backTo pos (starEach rest env))) (fun vs s₂ => Q (v :: vs) s₂) E s₁) E s)
    (hn : notStar e = true := by rfl) : wpAny M A (spliced (backTo pos (starEach (e :: rest) env))) Q E s := args_cons h (star1 hn)
theorem anil {Q : List Value → Shared → Prop} (h : Q [] s) : wpAny M A (spliced (backTo pos (starEach [] env))) Q E s := args_nil h
end
noncomputable abbrev Keep (h h' : Heap) : Prop := ∀ b o, h.get? b = some o → h'.get? b = some o
theorem notin2 {b E I N0 Gp : Nat} (hb : b < N0 ∨ b = Gp) (h1 : N0 ≤ E) (h2 : N0 ≤ I) (h3 : Gp ≠ E) (h4 : Gp ≠ I) : b ∉ [E, I] := by
  simp only [List.mem_cons, List.not_mem_nil, or_false]; lia
theorem ne1 {b L N0 Gp : Nat} (hb : b < N0 ∨ b = Gp) (h1 : N0 ≤ L) (h3 : Gp ≠ L) : b ≠ L := by lia
section
variable {w : World} {A : Around} {E : Value → Shared → Prop} {h : Heap} {gn : Array GenState} {d : Drawn} {t : Nat} {os : OsState}
theorem str_length_zero {x : Str} (h : (x.length == 0) = true) : x = ⟨#[]⟩ := by
  obtain ⟨a⟩ := x
  have : a.size = 0 := by simpa [Str.length] using h
  rw [Array.eq_empty_of_size_eq_zero this]
theorem add_strs {x y : Str} {t1 t2 : Tok} {Q : Value → Shared → Prop} (hz : x.length + y.length ≤ sizeLine) (c : ∀ tk t', Q (.str (x ++ y) tk) ⟨h, gn, d, t', os⟩) :
    wpAny (model pg w) A (binaryOp .Add (.str x t1) (.str y t2)) Q E ⟨h, gn, d, t, os⟩ := by
  refine P.add_str ?_
  split
  · rename_i hx
    rw [str_length_zero hx] at c
    have : (⟨#[]⟩ : Str) ++ y = y := by
      obtain ⟨b⟩ := y
      show (⟨#[] ++ b⟩ : Str) = ⟨b⟩
      rw [Array.empty_append]
    rw [this] at c
    exact c _ _
  · split
    · rename_i hx
      rw [str_length_zero hx] at c
      have : x ++ (⟨#[]⟩ : Str) = x := by
        obtain ⟨b⟩ := x
        show (⟨b ++ #[]⟩ : Str) = ⟨b⟩
        rw [Array.append_empty]
      rw [this] at c
      exact c _ _
    · refine ⟨?_, c _ _⟩
      show (x.cps ++ y.cps).size ≤ sizeLine
      rw [Array.size_append]; exact hz
theorem le_line {n : Nat} (h : n ≤ 100000) : n ≤ sizeLine := by rw [sizeLine_eq]; lia
theorem new_tuple {vs : List Value} {Q : Value → Shared → Prop} (hz : Nat.ble vs.length 1000 = true) (c : Q (.ref h.objs.size) ⟨h.push { cls := .type "tuple", data := .seq vs.toArray }, gn, d, t, os⟩) :
    wpAny (model pg w) A (newTuple vs) Q E ⟨h, gn, d, t, os⟩ := wpAny_newTuple (s := ⟨h, gn, d, t, os⟩) c (le_line (Nat.le_trans (Nat.le_of_ble_eq_true hz) (by decide)))
theorem new_list {vs : List Value} {Q : Value → Shared → Prop} (hz : vs.length ≤ sizeLine) (c : Q (.ref h.objs.size) ⟨h.push { cls := .type "list", data := .seq vs.toArray }, gn, d, t, os⟩) :
    wpAny (model pg w) A (newList vs) Q E ⟨h, gn, d, t, os⟩ := wpAny_newObj_type (s := ⟨h, gn, d, t, os⟩) c (by show vs.toArray.size ≤ sizeLine; rw [List.size_toArray]; exact hz)
theorem made_slice {x : Str} {t₀ : Tok} {l u : Option (Int × Tok)} {Q : Value → Shared → Prop} (hz : x.length ≤ sizeLine) (c : ∀ tk t', Q (.str (Txt.slice x (l.map (·.1)) (u.map (·.1))) tk) ⟨h, gn, d, t', os⟩) :
    (sliceMade x t₀ l u none).post Q ⟨h, gn, d, t, os⟩ := by
  unfold sliceMade
  have e : (((none : Option (Int × Tok)).map (·.1)).getD 1 == 1 && (slicePicked x l u none).length == x.length) = ((1 : Int) == 1 && (strSliceIndices (l.map (·.1)) (u.map (·.1)) 1 x.length).length == x.length) := rfl
  rw [e]
  unfold Txt.slice at c
  split
  · rename_i hc
    rw [if_pos hc] at c
    exact c _ _
  · rename_i hc
    rw [if_neg hc] at c
    refine ⟨?_, c _ _⟩
    refine Nat.le_trans ?_ hz
    show (List.filterMap _ (strSliceIndices (l.map (·.1)) (u.map (·.1)) 1 x.length)).toArray.size ≤ _
    rw [List.size_toArray]
    exact Nat.le_trans (List.length_filterMap_le _ _) (sliceIndices_le _ _ _)
noncomputable abbrev lst (items : Array Value) (n : Nat) : Obj := { cls := .type "list", data := .seq items n }
theorem do_append {g : Heap} {L D : Addr} {ns : List Str} {vals : List (Option Value)} {pre post : List (Addr × Obj)} {items : Array Value} {nn : Nat} {x : Value} {Q : Value → Shared → Prop} (S : St g L ns vals (pre ++ (D, lst items nn) :: post) h)
    (hz : items.size ≤ sizeLine) (c : ∀ h', St g L ns vals (pre ++ (D, lst (items.push x) (nn + 1)) :: post) h' → Q .none ⟨h', gn, d, t, os⟩) :
    wpAny (model pg w) A (call (.builtin "list.append") [.ref D, x]) Q E ⟨h, gn, d, t, os⟩ :=
  append_at (s := ⟨h, gn, d, t, os⟩) (S.isOwn (D, lst items nn) (by simp)).1 (fun h' hs ho => c h' (S.upd hs ho)) hz
theorem gm_append {g : Heap} {L D : Addr} {ns : List Str} {vals : List (Option Value)} {pre post : List (Addr × Obj)} {items : Array Value} {nn : Nat} {pl : Sem Bool} {Q : Value × List Value → Shared → Prop} (S : St g L ns vals (pre ++ (D, lst items nn) :: post) h)
    (c : Q (.builtin "list.append", [.ref D]) ⟨h, gn, d, t, os⟩) : wpAny (model pg w) A (getMethod (.ref D) "append" pl) Q E ⟨h, gn, d, t, os⟩ :=
  Calls.getMethod_list_append (s := ⟨h, gn, d, t, os⟩) (S.isOwn (D, lst items nn) (by simp)).1 rfl rfl c
theorem o_add {x y : Int} {t1 t2 : Tok} {Q : Value → Shared → Prop} (c : ∀ tk t', Q (.int (x + y) tk) ⟨h, gn, d, t', os⟩) : wpAny (model pg w) A (binaryOp .Add (.int x t1) (.int y t2)) Q E ⟨h, gn, d, t, os⟩ := P.add_int (c _ _)
theorem o_iadd {x y : Int} {t1 t2 : Tok} {Q : Value → Shared → Prop} (c : ∀ tk t', Q (.int (x + y) tk) ⟨h, gn, d, t', os⟩) : wpAny (model pg w) A (inplaceOp .Add (.int x t1) (.int y t2)) Q E ⟨h, gn, d, t, os⟩ := P.iadd_int (c _ _)
theorem o_sub {x y : Int} {t1 t2 : Tok} {Q : Value → Shared → Prop} (c : ∀ tk t', Q (.int (x - y) tk) ⟨h, gn, d, t', os⟩) : wpAny (model pg w) A (binaryOp .Sub (.int x t1) (.int y t2)) Q E ⟨h, gn, d, t, os⟩ := P.sub_int (c _ _)
theorem o_isub {x y : Int} {t1 t2 : Tok} {Q : Value → Shared → Prop} (c : ∀ tk t', Q (.int (x - y) tk) ⟨h, gn, d, t', os⟩) : wpAny (model pg w) A (inplaceOp .Sub (.int x t1) (.int y t2)) Q E ⟨h, gn, d, t, os⟩ := P.isub_int (c _ _)
theorem o_mul {x y : Int} {t1 t2 : Tok} {Q : Value → Shared → Prop} (hm : IntMulOk x y) (c : ∀ tk t', Q (.int (x * y) tk) ⟨h, gn, d, t', os⟩) : wpAny (model pg w) A (binaryOp .Mult (.int x t1) (.int y t2)) Q E ⟨h, gn, d, t, os⟩ := P.mul_int (c _ _) hm
theorem o_imul {x y : Int} {t1 t2 : Tok} {Q : Value → Shared → Prop} (hm : IntMulOk x y) (c : ∀ tk t', Q (.int (x * y) tk) ⟨h, gn, d, t', os⟩) : wpAny (model pg w) A (inplaceOp .Mult (.int x t1) (.int y t2)) Q E ⟨h, gn, d, t, os⟩ := P.imul_int (c _ _) hm
theorem o_fdiv {x y : Int} {t1 t2 : Tok} {Q : Value → Shared → Prop} (hy : y ≠ 0) (hp : Builtin.divisionGoesByPylong x y = false) (c : ∀ tk t', Q (.int (x.fdiv y) tk) ⟨h, gn, d, t', os⟩) : wpAny (model pg w) A (binaryOp .FloorDiv (.int x t1) (.int y t2)) Q E ⟨h, gn, d, t, os⟩ := floordiv_int hy (c _ _) (.inl hp)
theorem o_mod {x y : Int} {t1 t2 : Tok} {Q : Value → Shared → Prop} (hy : y ≠ 0) (c : ∀ tk t', Q (.int (x.fmod y) tk) ⟨h, gn, d, t', os⟩) : wpAny (model pg w) A (binaryOp .Mod (.int x t1) (.int y t2)) Q E ⟨h, gn, d, t, os⟩ := mod_int' hy (c _ _)
theorem o_shl {x y : Int} {t1 t2 : Tok} {Q : Value → Shared → Prop} (hy : 0 ≤ y) (hz : (Builtin.Int.intBits x : Int) + y ≤ 2 ^ 27) (c : ∀ tk t', Q (.int (x * 2 ^ y.toNat) tk) ⟨h, gn, d, t', os⟩) : wpAny (model pg w) A (binaryOp .LShift (.int x t1) (.int y t2)) Q E ⟨h, gn, d, t, os⟩ := lshift_int hy hz (c _ _)
theorem o_shr {x y : Int} {t1 t2 : Tok} {Q : Value → Shared → Prop} (hy : 0 ≤ y) (c : ∀ tk t', Q (.int (x.fdiv (2 ^ y.toNat)) tk) ⟨h, gn, d, t', os⟩) : wpAny (model pg w) A (binaryOp .RShift (.int x t1) (.int y t2)) Q E ⟨h, gn, d, t, os⟩ := rshift_int hy (c _ _)
theorem o_xor {x y : Int} {t1 t2 : Tok} {Q : Value → Shared → Prop} (c : ∀ tk t', Q (.int (Builtin.bitXor x y) tk) ⟨h, gn, d, t', os⟩) : wpAny (model pg w) A (binaryOp .BitXor (.int x t1) (.int y t2)) Q E ⟨h, gn, d, t, os⟩ := xor_int (c _ _)
theorem o_pow {x y : Int} {t1 t2 : Tok} {Q : Value → Shared → Prop} (hy : 0 ≤ y) (hz : (Builtin.Int.intBits x : Int) * y ≤ 2 ^ 27) (c : ∀ tk t', Q (.int (x ^ y.toNat) tk) ⟨h, gn, d, t', os⟩) : wpAny (model pg w) A (binaryOp .Pow (.int x t1) (.int y t2)) Q E ⟨h, gn, d, t, os⟩ := pow_int hy hz (c _ _)
theorem o_neg {x : Int} {t1 : Tok} {Q : Value → Shared → Prop} (c : ∀ tk t', Q (.int (-x) tk) ⟨h, gn, d, t', os⟩) : wpAny (model pg w) A (unaryOp .USub (.int x t1)) Q E ⟨h, gn, d, t, os⟩ := P.neg_int (c _ _)
theorem o_inv {x : Int} {t1 : Tok} {Q : Value → Shared → Prop} (c : ∀ tk t', Q (.int (Builtin.bitNot x) tk) ⟨h, gn, d, t', os⟩) : wpAny (model pg w) A (unaryOp .Invert (.int x t1)) Q E ⟨h, gn, d, t, os⟩ := invert_int (c _ _)
theorem o_len_str {x : Str} {t1 : Tok} {Q : Value → Shared → Prop} (hx : x.length ≤ 100000) (c : ∀ tk t', Q (.int (x.length : Int) tk) ⟨h, gn, d, t', os⟩) : wpAny (model pg w) A (call (.builtin "len") [.str x t1]) Q E ⟨h, gn, d, t, os⟩ := P.len_str (by lia) (c _ _)
theorem o_range1 {x : Int} {t1 : Tok} {Q : Value → Shared → Prop} (c : ∀ h' r u v t', Keep h h' → h'.objs.size = h.objs.size + 1 → r = h.objs.size → IsRange h' r 0 x 1 u t1 v → Q (.ref r) ⟨h', gn, d, t', os⟩) : wpAny (model pg w) A (call (.type "range") [.int x t1]) Q E ⟨h, gn, d, t, os⟩ :=
  call_range_1 (s := ⟨h, gn, d, t, os⟩) (c _ _ _ _ _ (fun b o e => Heap.get?_push_of_some _ e) (Heap.size_push _ _) rfl (Heap.get?_push_size _ rfl))
theorem o_range2 {x y : Int} {t1 t2 : Tok} {Q : Value → Shared → Prop} (c : ∀ h' r v t', Keep h h' → h'.objs.size = h.objs.size + 1 → r = h.objs.size → IsRange h' r x y 1 t1 t2 v → Q (.ref r) ⟨h', gn, d, t', os⟩) : wpAny (model pg w) A (call (.type "range") [.int x t1, .int y t2]) Q E ⟨h, gn, d, t, os⟩ :=
  call_range_2 (s := ⟨h, gn, d, t, os⟩) (c _ _ _ _ (fun b o e => Heap.get?_push_of_some _ e) (Heap.size_push _ _) rfl (Heap.get?_push_size _ rfl))
theorem o_range3 {x y z : Int} {t1 t2 t3 : Tok} {Q : Value → Shared → Prop} (hz : z ≠ 0) (hz2 : z.natAbs < 1073741824) (c : ∀ h' r t', Keep h h' → h'.objs.size = h.objs.size + 1 → r = h.objs.size → IsRange h' r x y z t1 t2 t3 → Q (.ref r) ⟨h', gn, d, t', os⟩) :
    wpAny (model pg w) A (call (.type "range") [.int x t1, .int y t2, .int z t3]) Q E ⟨h, gn, d, t, os⟩ :=
  call_range_3 (s := ⟨h, gn, d, t, os⟩) hz (c _ _ _ (fun b o e => Heap.get?_push_of_some _ e) (Heap.size_push _ _) rfl (Heap.get?_push_size _ rfl)) (.inl (PyProof.noPylong_small hz2))
theorem o_chr {x : Int} {t1 : Tok} {Q : Value → Shared → Prop} (h0 : 0 ≤ x) (h1 : x ≤ 1114111) (c : ∀ tk t', Q (.str ⟨#[x.toNat]⟩ tk) ⟨h, gn, d, t', os⟩) : wpAny (model pg w) A (call (.builtin "chr") [.int x t1]) Q E ⟨h, gn, d, t, os⟩ := chr_of_range h0 h1 (c _ _)
theorem o_ord {k : Nat} {t1 : Tok} {Q : Value → Shared → Prop} (c : ∀ tk t', Q (.int (k : Int) tk) ⟨h, gn, d, t', os⟩) : wpAny (model pg w) A (call (.builtin "ord") [.str ⟨#[k]⟩ t1]) Q E ⟨h, gn, d, t, os⟩ := P.ord_of_char (c _ _)
theorem o_replace {x y z : Str} {t1 u v : Tok} {Q : Value → Shared → Prop} (hn : NoneBooked h) (hu : u ≠ 0) (hv : v ≠ 0) (huv : u ≠ v) (hb : x.length + (x.length + 1) * z.length ≤ 16777216) (c : ∀ tk t', Q (.str (Txt.replace x y z) tk) ⟨h, gn, d, t', os⟩) :
    wpAny (model pg w) A (call (.builtin "str.replace") [.str x t1, .str y u, .str z v]) Q E ⟨h, gn, d, t, os⟩ := SC.replaceA hu hv huv hb (fun _ _ => c _ _) hn
theorem o_count {x y : Str} {t1 u : Tok} {Q : Value → Shared → Prop} (c : ∀ tk t', Q (.int (Txt.count x y) tk) ⟨h, gn, d, t', os⟩) : wpAny (model pg w) A (call (.builtin "str.count") [.str x t1, .str y u]) Q E ⟨h, gn, d, t, os⟩ := SC.count (c _ _)
end
end Mine
end
-- part M2
section
set_option maxRecDepth 100000
set_option linter.unusedVariables false
set_option maxHeartbeats 4000000
namespace Mine
open PySem PySem.Calls PyProof.Rows PySem.W
section
variable {w : World} {A : Around} {E : Value → Shared → Prop} {h : Heap} {gn : Array GenState} {d : Drawn} {t : Nat} {os : OsState} {g : Heap} {L a : Addr} {i : Nat} {vals : List (Option Value)} {own : List (Addr × Obj)}
  {fa : Nat → Addr} {mg mb : Str → Option Value} {n : Str} {cd : Value} {pos : Pos}

/-- what _strcoll gives -/
noncomputable def coll (x y : Str) : Int := b2i (decide (y.cps.toList < x.cps.toList)) - b2i (decide (x.cps.toList < y.cps.toList))

theorem ok13 : DefOk 13 := by decide +kernel
theorem strcoll_spec {R : Result → Shared → Prop} {x y : Str} {tx ty : Tok} (B : Base fa mg mb h) (hroom : A.depth < recursionLimit)
    (c : ∀ h' t' tk, Keep h h' → R (.ok (.ret (.int (coll x y) tk))) ⟨h', gn, d, t', os⟩) :
    codeAny (model pg w) A (.call (.ref (fa 13)) ⟨[.str x tx, .str y ty], []⟩) R ⟨h, gn, d, t, os⟩ := by
  refine enter B (by decide) ok13 hroom (fun _ _ _ => by kernel_rfl) fun L cd h' t' ht' hL' S => ?_
  refine wpAny_execs_cons (wpAny_Return_some (wpAny_BinOp (wpAny_Compare1 (r_loc S v13_a rfl (r_loc S v13_b rfl (P.gt_str ?_))))))
  refine wpAny_Compare1 (r_loc S v13_a rfl (r_loc S v13_b rfl (P.lt_str ?_)))
  exact sub_bool (c _ _ _ S.keep)
end
end Mine
end
-- part M3
section
set_option maxRecDepth 100000
set_option linter.unusedVariables false
set_option maxHeartbeats 4000000
namespace Mine
open PySem PySem.Calls PyProof.Rows PySem.W PySem.W.X

noncomputable def Starts (st : GenState) (c : Code) (t : Sem Fin) (fs : List Frame) : Prop :=
  (st = .fresh c ∧ t = denote table c ∧ fs = []) ∨ (∃ k l p cl, st = .suspended k l c p fs cl ∧ t = k (.send .none))
theorem Starts.ne_running {st c t fs} (x : Starts st c t fs) : st ≠ .running ∧ st ≠ .finished := by
  rcases x with ⟨rfl, _, _⟩ | ⟨k, l, p, cl, rfl, _⟩ <;> constructor <;> intro e <;> cases e
section
variable {w : World} {A : Around} {E : Value → Shared → Prop} {s : Shared}
theorem resumeX {α : Type} {gi : Nat} {gs : GenState} {c : Code} {t : Sem Fin} {fs : List Frame} {l : List Value} {k : GenResult → Sem α} {Q : α → Shared → Prop} (hg : s.gens[gi]? = some gs) (hs : Starts gs c t fs)
    (x : SegX (model pg w) A c t fs (s.setGen gi .running) (fun e s₁ => wpAny (model pg w) A (k e.result) Q E (s₁.setGen gi e.genState))) :
    wpAny (model pg w) A (.resume gi (.send .none) l k) Q E s := by
  refine fun Γ p hΓ => wake_any α pg w (A := A) (gs := gs) hg ?_ (fun Γ => Γ.In A) (fun _ h => h) x Γ p hΓ
  rcases hs with ⟨h1, h2, h3⟩ | ⟨k₀, l₀, p₀, cl, h1, h2⟩
  · exact .inl ⟨h1, rfl, h2, h3⟩
  · exact .inr ⟨k₀, l₀, p₀, cl, h1, h2⟩

/-- a new StopIteration flies -/
theorem stop_flies {α β : Type} {f : α → Sem β} {Q : β → Shared → Prop} (hA : A.handled = none) (k : ∀ e h', (∀ b o, s.heap.get? b = some o → h'.get? b = some o) → Shared.TypeIs { s with heap := h' } e "StopIteration" → E e { s with heap := h' }) :
    wpAny (model pg w) A (newExc (.type "StopIteration") [] >>= fun e => raiseNew e >>= f) Q E s := by
  refine wpAny_bind (wpAny_bind (m := newTuple []) (wpAny_newObj_type (T := "tuple") (wpAny_bind (m := firstArgMember (.type "StopIteration") []) (wpAny_of_eq (a := Value.none) rfl ?_))))
  exact wpAny_newObj_type (T := "StopIteration") (wpAny_bind (wpAny_raiseNew_none hA (k _ _ (fun b o e => Heap.get?_push_of_some _ (Heap.get?_push_of_some _ e)) ⟨_, Heap.get?_push_size _ rfl, rfl⟩))) (by size_fits)
theorem pyNextX {a : Addr} {gi : Nat} {gs : GenState} {c : Code} {t : Sem Fin} {fs : List Frame} {Q : Option Value → Shared → Prop} (hh : A.handled = none)
    (hl : s.heap.NoLimit) (hroom : A.depth < recursionLimit) (hg : s.heap.IsGen a gi) (hgs : s.gens[gi]? = some gs) (hs : Starts gs c t fs)
    (x : SegX (model pg w) A.in1 c t fs (s.setGen gi .running) (fun e s₁ => match e with
      | .ret r => r = .ok (.ret .none) ∧ ∀ h', (∀ b o, s₁.heap.get? b = some o → h'.get? b = some o) → Q none { s₁.setGen gi .finished with heap := h' }
      | .susp v g l k c p fs => Q (some v) (s₁.setGen gi (End.susp v g l k c p fs).genState))) :
    wpAny (model pg w) A (pyNext (.ref a)) Q E s := by
  refine wpAny_bind (wpAny_attempt (wpAny_callSpecial?_slot (name := "__next__") hg.typeIs slot_gen_next (wpAny_call_entry slot_gen_next hg.typeIs entry_gen_next ?_ (args_gen_next _))))
  change wpAny _ A.in1 (Builtin.Generator.genWake (.ref a) (.send .none)) _ _ _
  refine wpAny_bind (m := holding [.none] (Builtin.Generator.genNumber (.ref a))) (wpAny_holding (wpAny_genNumber hg (wpAny_bind (m := genState gi) (wpAny_genState hgs ?_))))
  rcases id hs with ⟨rfl, _⟩ | ⟨_, _, _, _, rfl, _⟩
  all_goals
    refine wpAny_bind (m := roomToWake) (wpAny_roomToWake hl hroom (resumeX (l := []) hgs hs (x.mono fun e s₁ he => ?_)))
    match e, he with
    | .ret _, ⟨rfl, he⟩ =>
      refine stop_flies (A := A.in1) (s := s₁.setGen gi .finished) hh fun e h' hk ht => ?_
      exact wpAny_bind (wpAny_isInstance ht isSubtype_stop (wpAny_pure (he h' hk)))
    | .susp .., he => exact wpAny_pure ⟨_, rfl, wpAny_pure he⟩
end

section
variable {w : World} {A : Around} {s : Shared} {env : Env} {c : Code} {fs : List Frame} {P : End → Shared → Prop}
  {K : Flow → Sem Fin} {H : Value → Sem Fin} {gd : Bool → Bool} {lv : List Value → List Value}

theorem x_wrap {α : Type} {m : Sem α} {K : α → Sem Fin} {H : Value → Sem Fin} (x : wpAny (model pg w) (A.over c fs) m (fun a s' => SegX (model pg w) A c (K a) fs s' P) (fun e s' => SegX (model pg w) A c (H e) fs s' P) s) :
    SegX (model pg w) A c (m.wrap K H gd lv) fs s P := by
  intro Γ p hc hΓ
  subst hc
  exact runs_wrap_of_wp (Φ := fun e s' => e.quiet = true ∧ P e s') K H gd lv m (x _ p (hΓ.over fs)) (fun _ _ _ q => q Γ _ rfl hΓ) fun _ _ _ q => q Γ _ rfl hΓ
/-- the first step of a run that is wrapped -/
theorem x_bind {α β : Type} {m : Sem α} {f : α → Sem β} {K : β → Sem Fin} {H : Value → Sem Fin} (x : wpAny (model pg w) (A.over c fs) m (fun a s' => SegX (model pg w) A c ((f a).wrap K H gd lv) fs s' P) (fun _ _ => False) s) :
    SegX (model pg w) A c ((m >>= f).wrap K H gd lv) fs s P := by
  rw [Sem.bind_eq_wrap', Sem.wrap_wrap]
  exact x_wrap (wpAny_mono x (fun _ _ q => q) fun _ _ q => q.elim)
theorem x_nil (x : SegX (model pg w) A c (K .next) fs s P) : SegX (model pg w) A c ((execs [] env).wrap K H gd lv) fs s P := x
theorem x_cons {st : Stmt} {rest : List Stmt}
    (x : SegX (model pg w) A c ((exec st env).wrap (fun f => match f with | .next => (execs rest env).wrap K H gd lv | f => K f) H gd lv) fs s P) :
    SegX (model pg w) A c ((execs (st :: rest) env).wrap K H gd lv) fs s P := by
  rw [execs_cons_wrap]; exact x
theorem x_at {q : Pos} {k : Unit → Sem Fin} (x : SegX (model pg w) A c (k ()) fs s P) : SegX (model pg w) A c (.at q k) fs s P := s_skim pg w A c fs P s (.at q k) 1 x
theorem x_if {test : Expr} {body orelse : List Stmt} {pos : Pos}
    (x : wpAny (model pg w) (A.over c fs) (isTrue test env (eval test env)) (fun b s' => if b = true then SegX (model pg w) A c ((execs body env).wrap K H gd lv) fs s' P else SegX (model pg w) A c ((execs orelse env).wrap K H gd lv) fs s' P) (fun _ _ => False) s) :
    SegX (model pg w) A c ((exec (.If test body orelse pos) env).wrap K H gd lv) fs s P := by
  rw [exec_If]
  refine x_bind (m := standAt pos) (wpAny_standAt (x_bind (wpAny_mono x (fun b s' q => ?_) fun _ _ q => q)))
  cases b <;> exact q
theorem x_yield {e : Expr} {ypos pos : Pos} (hfs : splitAtGen fs = none) (hgd : gd false = false) (hfg : fs.any Frame.guarded = false)
    (x : wpAny (model pg w) (A.over c fs) (eval e env) (fun v s' => ∀ l k p, k (.send .none) = K .next → P (.susp v false l k c p fs) s') (fun _ _ => False) s)
    (hco : env.scope.isCoroutine = false := by rfl) (hi : interactive env = false := by rfl) :
    SegX (model pg w) A c ((exec (.Expr (.Yield (some e) ypos) pos) env).wrap K H gd lv) fs s P := by
  have tree : exec (.Expr (.Yield (some e) ypos) pos) env = standAt pos >>= fun _ => eval e env >>= fun v => standAt ypos >>= fun _ => yieldValue v >>= dropValue (.Yield (some e) ypos) pos := by
    rw [exec_Expr env _ pos hi rfl]
    show (standAt pos >>= fun _ => (eval e env >>= fun v => standAt ypos >>= fun _ => yieldOut env v) >>= fun r => dropValue (.Yield (some e) ypos) pos r) = _
    simp [yieldOut, hco, bind_assoc]
  rw [tree]
  refine x_bind (m := standAt pos) (wpAny_standAt (x_bind (wpAny_mono x (fun v s' q => x_bind (m := standAt ypos) (wpAny_standAt ?_)) fun _ _ q => q)))
  have run : ∀ b k l, b = false → k (.send .none) = K .next → SegX (model pg w) A c (.yield v b l k) fs s' P := by
    rintro _ k l rfl ek
    exact s_yield pg w A c fs P s' v l k hfs hfg fun p => q l k p ek
  exact run _ _ _ hgd rfl

theorem x_func {body : List Stmt}
    (x : ∀ (K : Flow → Sem Fin) (H : Value → Sem Fin) (gd : Bool → Bool) (lv : List Value → List Value), (∀ f, K f = .pure (.done (.ret (match f with | .ret v => v | _ => .none)))) → gd false = false →
      SegX (model pg w) A (.func body env) ((execs body env).wrap K H gd lv) fs s P) :
    SegX (model pg w) A (.func body env) (denote table (.func body env)) fs s P := by
  refine s_skim pg w A _ fs P s _ 1 ?_
  obtain ⟨K, H, gd, lv, tree, hK, hgd⟩ : ∃ K H gd lv, ((execs body env).onRaise (leaving env) >>= fun f => match f with | .ret v => ret v | _ => ret .none) = (execs body env).wrap K H gd lv ∧ (∀ f, K f = .pure (.done (.ret (match f with | .ret v => v | _ => .none)))) ∧ gd false = false :=
    ⟨_, _, _, _, by rw [Sem.onRaise_eq_wrap, Sem.bind_eq_wrap', Sem.wrap_wrap], fun f => by cases f <;> rfl, rfl⟩
  exact s_eq pg w A _ fs P s _ _ tree (x K H gd lv hK hgd)

theorem x_for {target iter : Expr} {body orelse : List Stmt} {pos : Pos} (hgd : gd false = false)
    (x : wpAny (model pg w) (A.over c fs) (eval iter env) (fun v s₁ => wpAny (model pg w) (A.over c fs) (pyIter v) (fun it s₂ =>
      ∀ (kk : Result → Sem Fin) l p, (∀ f, kk (.ok f) = K f) → SegX (model pg w) A (.forLoop target it body orelse env) (denote table (.forLoop target it body orelse env)) (.ret kk none false l c p [] :: fs) s₂ P) (fun _ _ => False) s₁) (fun _ _ => False) s)
    (hs : ∀ v, foldedSetIterable iter env v = pure v := by intro _; rfl) :
    SegX (model pg w) A c ((exec (.For target iter body orelse pos) env).wrap K H gd lv) fs s P := by
  rw [exec_For]
  refine x_bind (m := standAt pos) (wpAny_standAt (x_bind (m := eval iter env) (wpAny_mono x (fun v s₁ p => ?_) fun _ _ q => q)))
  refine x_bind (m := foldedSetIterable iter env v) (hs v ▸ wpAny_pure (x_bind (m := standAt iter.pos) (wpAny_standAt ?_)))
  refine x_bind (m := holding [v] (pyIter v)) (wpAny_holding (wpAny_mono p (fun it s₂ p => ?_) fun _ _ q => q))
  have run : ∀ b l kk, b = false → (∀ f, kk (.ok f) = K f) → SegX (model pg w) A c (.call (.forLoop target it body orelse env) none b l kk) fs s₂ P := by
    rintro _ l kk rfl ek
    exact s_call pg w A c fs P s₂ _ none false _ _ fun q => p kk l q ek
  exact run _ _ _ hgd fun _ => rfl

theorem x_loop {target : Expr} {it : Value} {body : List Stmt} {cL : Code} (hc : cL = .forLoop target it body [] env)
    (x : ∀ (K : Flow → Sem Fin) (H : Value → Sem Fin) (gd : Bool → Bool) (lv : List Value → List Value), K .next = .pure (.again cL) → gd false = false →
      wpAny (model pg w) (A.over cL fs) (pyNext it) (fun r s₁ => match r with
        | none => SegX (model pg w) A (.block [] env) (.pure (.done .next)) fs s₁ P
        | some v => wpAny (model pg w) (A.over cL fs) (letOwnedTupleGo target it v) (fun _ s₂ => wpAny (model pg w) (A.over cL fs) (assign target env v) (fun _ s₃ =>
          SegX (model pg w) A cL ((execs body env).wrap K H gd lv) fs s₃ P) (fun _ _ => False) s₂) (fun _ _ => False) s₁) (fun _ _ => False) s) :
    SegX (model pg w) A cL (denote table cL) fs s P := by
  subst hc
  change SegX _ A _ ((forTurn target it body [] env).onRaise _) fs s P
  rw [Sem.onRaise_eq_wrap]
  refine x_bind (m := standAt target.pos) (wpAny_standAt (x_bind (m := (pyNext it).onRaise _) (wpAny_onRaise (wpAny_mono (x ?K ?H ?gd ?lv ?_ ?_) (fun r s₁ p => ?_) fun _ _ q => q.elim))))
  rotate_left 6
  · cases r with
    | none => exact s_again pg w A _ fs P s₁ _ rfl p
    | some v =>
      refine x_bind (m := letOwnedTupleGo target it v) (wpAny_mono p (fun _ s₂ p => x_bind (m := assign target env v) (wpAny_mono p (fun _ s₃ p => ?_) fun _ _ q => q)) fun _ _ q => q)
      rw [Sem.bind_eq_wrap', Sem.wrap_wrap]
      exact p
  all_goals exact rfl
end
end Mine
end
-- part M4
section
set_option maxRecDepth 100000
set_option linter.unusedVariables false
set_option maxHeartbeats 4000000
namespace Mine
open PySem PySem.Calls PyProof.Rows PySem.W PySem.W.X

/-- what _iter_escaped_chars yields, from sign k on -/
noncomputable def iterE : Nat → Bool → List Nat → List (Nat × Str)
  | _, false, [] => []
  | k, true, [] => [(k - 1, ⟨#[92]⟩)]
  | k, true, c :: r => (k, ⟨#[92, c]⟩) :: iterE (k + 1) false r
  | k, false, c :: r => if c = 92 then iterE (k + 1) true r else (k, ⟨#[c]⟩) :: iterE (k + 1) false r

/-- what a generator's turn turns: nothing below N0 -/
structure Mv (N0 Gp : Nat) (s s' : Shared) : Prop where
  low : ∀ b o, b < N0 ∨ b = Gp → s.heap.get? b = some o → s'.heap.get? b = some o
  gens : s'.gens = s.gens
  drawn : s'.drawn = s.drawn
  os : s'.os = s.os
theorem Mv.refl {N0 Gp : Nat} {s : Shared} : Mv N0 Gp s s := ⟨fun _ _ _ e => e, rfl, rfl, rfl⟩
theorem Mv.trans {N0 Gp : Nat} {s s' s'' : Shared} (x : Mv N0 Gp s s') (y : Mv N0 Gp s' s'') : Mv N0 Gp s s'' :=
  ⟨fun b o hb e => y.low b o hb (x.low b o hb e), y.gens.trans x.gens, y.drawn.trans x.drawn, y.os.trans x.os⟩
noncomputable def ItemAt (h : Heap) (v : Value) (x : Nat × Str) : Prop := ∃ T t u, v = .ref T ∧ h.IsTuple T #[.int (x.1 : Int) t, .str x.2 u]
/-- what a consumer leaves as it stood -/
noncomputable def Agree (g : Heap) (N0 : Nat) (h h' : Heap) : Prop := (∀ b o, N0 ≤ b → h.get? b = some o → h'.get? b = some o) ∧ (∀ b o, g.get? b = some o → h'.get? b = some o)

noncomputable def Will (w : World) (A : Around) (g : Heap) (N0 Gp : Nat) : List (Nat × Str) → GenState → Heap → Prop
  | [], st, h => ∃ c t fs, Starts st c t fs ∧ ∀ s, Agree g N0 h s.heap → SegX (model pg w) A c t fs s fun e s₁ => e = .ret (.ok (.ret .none)) ∧ Mv N0 Gp s s₁
  | x :: r, st, h => ∃ c t fs, Starts st c t fs ∧ ∀ s, Agree g N0 h s.heap → SegX (model pg w) A c t fs s fun e s₁ =>
      ∃ v l k c p fs, e = .susp v false l k c p fs ∧ fs.any Frame.guarded = false ∧ Mv N0 Gp s s₁ ∧ ItemAt s₁.heap v x ∧ Will w A g N0 Gp r (.suspended k l c p fs false) s₁.heap
/-- where a segment is to end -/
noncomputable def Post (w : World) (A : Around) (g : Heap) (N0 Gp : Nat) (s : Shared) : List (Nat × Str) → End → Shared → Prop
  | [] => fun e s₁ => e = .ret (.ok (.ret .none)) ∧ Mv N0 Gp s s₁
  | x :: r => fun e s₁ => ∃ v l k c p fs, e = .susp v false l k c p fs ∧ fs.any Frame.guarded = false ∧ Mv N0 Gp s s₁ ∧ ItemAt s₁.heap v x ∧ Will w A g N0 Gp r (.suspended k l c p fs false) s₁.heap
theorem will_of {w : World} {A : Around} {g : Heap} {N0 Gp : Nat} {its : List (Nat × Str)} {st : GenState} {h : Heap} {c : Code} {t : Sem Fin} {fs : List Frame} (hs : Starts st c t fs)
    (x : ∀ s, Agree g N0 h s.heap → SegX (model pg w) A c t fs s (Post w A g N0 Gp s its)) : Will w A g N0 Gp its st h := by
  cases its with
  | nil => exact ⟨c, t, fs, hs, x⟩
  | cons y r => exact ⟨c, t, fs, hs, x⟩

/-- the turning loop's state -/
structure LI (g : Heap) (L E I N0 Gp : Nat) (addr : Str) (ta : Tok) (k : Nat) (esc : Bool) (h : Heap) : Prop where
  S : ∃ p tp cv, St g L (lc 1) [some (.str addr ta), some (.int p tp), some (.bool esc), cv] [] h ∧ (esc = true → p = (k : Int) - 1)
  e : ∃ old, IsEnum h E I k old
  i : h.IsStrIter I (strIterType addr) addr ta k
  ei : E ≠ I
  eL : E ≠ L
  iL : I ≠ L
  nL : N0 ≤ L
  nE : N0 ≤ E
  nI : N0 ≤ I
  gE : g.get? E = none
  gI : g.get? I = none
  pL : Gp ≠ L
  pE : Gp ≠ E
  pI : Gp ≠ I
theorem LI.agree {g : Heap} {L E I N0 Gp : Nat} {addr : Str} {ta : Tok} {k : Nat} {esc : Bool} {h h' : Heap} (x : LI g L E I N0 Gp addr ta k esc h) (a : Agree g N0 h h') : LI g L E I N0 Gp addr ta k esc h' := by
  obtain ⟨p, tp, cv, S, hp⟩ := x.S
  obtain ⟨old, he⟩ := x.e
  obtain ⟨o, hi, hr⟩ := x.i
  exact ⟨⟨p, tp, cv, ⟨S.isNs.at' fun o e => a.1 L o x.nL e, S.len, a.2, S.gL, (fun _ hp => by cases hp), S.nd⟩, hp⟩, ⟨old, a.1 _ _ x.nE he⟩, ⟨o, a.1 _ _ x.nI hi, hr⟩, x.ei, x.eL, x.iL, x.nL, x.nE, x.nI, x.gE, x.gI, x.pL, x.pE, x.pI⟩

theorem drawsStr {w : World} {A : Around} (hh : A.handled = none) (it : Addr) (x : Str) (t : Tok) :
    Draws pg w A it [it] x.cps.size (fun i v => ∃ c u, x.cps[i]? = some c ∧ v = .str ⟨#[c]⟩ u) (fun i h => h.IsStrIter it (strIterType x) x t i) := by
  unfold strIterType
  split
  · exact Draws.strAscii hh it x t
  · exact Draws.strWide hh it x t

theorem over_handled {A : Around} (hA : A.handled = none) (c c₁ : Code) (k : Result → Sem Fin) (l : List Value) (p : Pos) : (A.over c [.ret k none false l c₁ p []]).handled = none := by
  show (marksOver [.ret k none false l c₁ p []] (A.handled, A.handled)).1 = none
  rw [hA]; rfl
theorem over_handled0 {A : Around} (hA : A.handled = none) (c : Code) : (A.over c []).handled = none := by
  show (marksOver [] (A.handled, A.handled)).1 = none
  rw [hA]; rfl


theorem St.agree {g : Heap} {L N0 : Nat} {ns : List Str} {vals : List (Option Value)} {own : List (Addr × Obj)} {h h' : Heap} (S : St g L ns vals own h) (hL : N0 ≤ L) (a : Agree g N0 h h') : St g L ns vals [] h' :=
  ⟨S.isNs.at' fun o e => a.1 L o hL e, S.len, a.2, S.gL, (fun _ hp => by cases hp), by simp⟩
noncomputable def st (i j : Nat) : Stmt := ((bd i)[j]?).getD (.Pass default)
noncomputable def forT : Stmt → PySem.Expr
  | .For t _ _ _ _ => t
  | _ => .Constant .none 0 default
noncomputable def forB : Stmt → List Stmt
  | .For _ _ b _ _ => b
  | .While _ b _ _ => b
  | .If _ b _ _ => b
  | _ => []

theorem one_beq (c k : Nat) : ([c] == [k]) = decide (c = k) := by by_cases h : c = k <;> simp [h]
theorem walkE {w : World} {A : Around} (hA : A.handled = none) (E I : Addr) (hEI : E ≠ I) (addr : Str) (ta : Tok) :
    WalksT pg w A E [E, I] [E, I] addr.cps.size (fun i vals => ∃ t x, (∃ c u, addr.cps[i]? = some c ∧ x = .str ⟨#[c]⟩ u) ∧ vals = #[.int i t, x])
      (fun i h => (∃ old, IsEnum h E I (i : Int) old) ∧ h.IsStrIter I (strIterType addr) addr ta i)
      (fun i T h => (∃ x, IsEnumOut h E I ((i : Int) + 1) x T) ∧ h.IsStrIter I (strIterType addr) addr ta (i + 1) ∧ T ≠ E ∧ T ≠ I) :=
  WalksT.enumerateD (drawsStr (A := A.in1) hA I addr ta) E hEI (by simpa using hEI) (by simp)

section
variable {w : World} {A : Around} {g : Heap} {fa : Nat → Addr} {mg mb : Str → Option Value} {L E I N0 Gp : Nat} {addr : Str} {ta : Tok} {a : Addr} {cd : Value}
noncomputable abbrev gEnv (L a : Addr) (cd : Value) : Env := envOf (nm 1) (sc 1) L a cd

theorem gen_loop (hA : A.handled = none) {kk : Result → Sem Fin} {l : List Value} {p : Pos}
    (hT : ∀ s₀ s (k : Nat) esc pv tp cv, St g L (lc 1) [some (.str addr ta), some (.int pv tp), some (.bool esc), cv] [] s.heap → (esc = true → pv = (k : Int) - 1 ∧ 0 < k) → N0 ≤ L → Mv N0 Gp s₀ s →
      SegX (model pg w) A (.func (bd 1) (gEnv L a cd)) (kk (.ok .next)) [] s (Post w A g N0 Gp s₀ (iterE k esc []))) :
    ∀ (cs : List Nat) (k : Nat) (esc : Bool) (s s₀ : Shared), LI g L E I N0 Gp addr ta k esc s.heap → (esc = true → 0 < k) → addr.cps.toList.drop k = cs → k ≤ addr.cps.size → Mv N0 Gp s₀ s →
      SegX (model pg w) A (.forLoop (forT (st 1 2)) (.ref E) (forB (st 1 2)) [] (gEnv L a cd)) (denote table (.forLoop (forT (st 1 2)) (.ref E) (forB (st 1 2)) [] (gEnv L a cd)))
        [.ret kk none false l (.func (bd 1) (gEnv L a cd)) p []] s (Post w A g N0 Gp s₀ (iterE k esc cs)) := by
  intro cs
  induction cs with
  | nil =>
    intro k esc s s₀ X hk hd hle mv
    have hkn : k = addr.cps.size := by
      have := congrArg List.length hd
      simp at this; omega
    obtain ⟨h, gn, d, t, os⟩ := s
    refine x_loop rfl fun K H gd lv hK hgd => ?_
    have W := walkE (w := w) (over_handled hA (.forLoop (forT (st 1 2)) (.ref E) (forB (st 1 2)) [] (gEnv L a cd)) (.func (bd 1) (gEnv L a cd)) kk l p) E I X.ei addr ta
    refine W.done _ _ _ ⟨hkn ▸ X.e, hkn ▸ X.i⟩ fun h' tk hk' => ?_
    refine s_pop pg w A _ _ _ _ (.ok .next) _ rfl kk none false l _ _ _ ?_
    obtain ⟨pv, tp, cv, S, hp⟩ := X.S
    have S' := S.moved (wr := [E, I]) hk' (by simp [X.eL.symm, X.iL.symm]) (by simp [X.gE, X.gI]) (fun _ h => by cases h)
    refine hT s₀ _ k esc pv tp cv S' (fun he => ⟨hp he, hk he⟩) X.nL (mv.trans ⟨fun b o hb e => hk' b o ?_ e, rfl, rfl, rfl⟩)
    exact notin2 hb X.nE X.nI X.pE X.pI
  | cons c r ih =>
    intro k esc s s₀ X hk hd hle mv
    have hlt : k < addr.cps.size := by
      have := congrArg List.length hd
      simp at this; omega
    have hc : addr.cps[k]? = some c := by
      have := congrArg List.head? hd
      rw [List.head?_drop] at this
      simpa using this
    have hd' : addr.cps.toList.drop (k + 1) = r := by
      have := congrArg List.tail hd
      rwa [List.tail_drop] at this
    obtain ⟨h, gn, d, t, os⟩ := s
    refine x_loop rfl fun K H gd lv hK hgd => ?_
    have hAo := over_handled hA (.forLoop (forT (st 1 2)) (.ref E) (forB (st 1 2)) [] (gEnv L a cd)) (.func (bd 1) (gEnv L a cd)) kk l p
    have W := walkE (w := w) hAo E I X.ei addr ta
    refine W.item k _ _ _ hlt ⟨X.e, X.i⟩ fun T vals h' tk hv hTsz hTT hM hk' => ?_
    obtain ⟨ti, x, ⟨c', u, hc', rfl⟩, rfl⟩ := hv
    have : c' = c := by rw [hc] at hc'; exact (Option.some.inj hc').symm
    subst this
    refine W.go _ _ _ k T _ _ _ hM fun h'' hS hk'' => ?_
    have hTw : T ∉ [E, I] := W.apart k T h' hM
    have hTT' : h''.IsTuple T #[.int k ti, .str ⟨#[c']⟩ u] := let ⟨o, e1, e2⟩ := hTT; ⟨o, hk'' _ _ hTw e1, e2⟩
    obtain ⟨pv, tp, cv, S, hp⟩ := X.S
    have S' := (S.moved (wr := [E, I]) hk' (by simp [X.eL.symm, X.iL.symm]) (by simp [X.gE, X.gI]) (fun _ h => by cases h)).moved (wr := [E, I]) hk'' (by simp [X.eL.symm, X.iL.symm]) (by simp [X.gE, X.gI]) (fun _ h => by cases h)
    refine asg2 hAo S' hTT' v1_pos v1_ch fun h₃ t₃ S₃ e₃ => ?_
    have mv₃ : Mv N0 Gp s₀ ⟨h₃, gn, d, t₃, os⟩ := mv.trans ⟨fun b o hb e => e₃ b o (ne1 hb X.nL X.pL) (hk'' b o (notin2 hb X.nE X.nI X.pE X.pI) (hk' b o (notin2 hb X.nE X.nI X.pE X.pI) e)), rfl, rfl, rfl⟩
    have E₃ : ∃ old, IsEnum h₃ E I ((k + 1 : Nat) : Int) old := let ⟨old, e⟩ := hS.1; ⟨old, e₃ _ _ X.eL e⟩
    have I₃ : h₃.IsStrIter I (strIterType addr) addr ta (k + 1) := let ⟨o, e, r⟩ := hS.2; ⟨o, e₃ _ _ X.iL e, r⟩
    refine x_cons (x_if (isTrue_plain (r_loc S₃ v1_escape rfl (wpAny_truthy_bool ?_))))
    have back : ∀ (s₂ : Shared) (esc' : Bool) (tp' : Tok) cv', St g L (lc 1) [some (.str addr ta), some (.int k tp'), some (.bool esc'), cv'] [] s₂.heap → (∃ old, IsEnum s₂.heap E I ((k + 1 : Nat) : Int) old) →
        s₂.heap.IsStrIter I (strIterType addr) addr ta (k + 1) → ∀ s₁, Mv N0 Gp s₁ s₂ → SegX (model pg w) A (.forLoop (forT (st 1 2)) (.ref E) (forB (st 1 2)) [] (gEnv L a cd)) (K .next)
          [.ret kk none false l (.func (bd 1) (gEnv L a cd)) p []] s₂ (Post w A g N0 Gp s₁ (iterE (k + 1) esc' r)) := fun s₂ esc' tp' cv' S₄ E₄ I₄ s₁ m => by
      rw [hK]
      exact s_again pg w A _ _ _ s₂ _ rfl (ih (k + 1) esc' s₂ s₁ ⟨⟨_, _, _, S₄, fun _ => by push_cast; omega⟩, E₄, I₄, X.ei, X.eL, X.iL, X.nL, X.nE, X.nI, X.gE, X.gI, X.pL, X.pE, X.pI⟩ (fun _ => Nat.succ_pos k) hd' hlt m)
    cases esc with
    | true =>
      rw [if_pos rfl]
      refine x_cons (x_yield rfl hgd rfl ?_)
      refine Tuple_ (acons (r_loc S₃ v1_pos rfl (acons (wpAny_BinOp (c_str fun t₄ => r_loc S₃ v1_ch rfl (add_strs ?_ fun t₅ t₆ => anil (new_tuple rfl ?_)))))))
      · exact le_line (by show (Array.size _) + 1 ≤ _; decide)
      intro l' kc pc hkc
      have X₄ := S₃.push { cls := .type "tuple", data := .seq #[.int k ti, .str (Str.ofString "\\" ++ ⟨#[c']⟩) t₅] }
      refine ⟨_, l', kc, _, pc, _, rfl, rfl, mv₃.trans ⟨fun b o _ e => Heap.get?_push_of_some _ e, rfl, rfl, rfl⟩, ⟨_, ti, t₅, rfl, ?_⟩, ?_⟩
      · exact ⟨_, Heap.get?_push_size _ rfl, rfl, 0, rfl⟩
      refine will_of (.inr ⟨kc, l', pc, false, rfl, rfl⟩) fun s₂ ag => ?_
      rw [hkc]
      obtain ⟨h₂, gn₂, d₂, t₂, os₂⟩ := s₂
      have S₅ := X₄.agree X.nL ag
      refine x_cons (x_wrap (wpAny_Assign_Name (c_bool (r_st S₅ v1_escape fun h₆ t₆ S₆ e₆ => ?_))))
      dsimp only [List.set] at S₆
      refine back _ false ti _ S₆ ?_ ?_ _ ⟨fun b o hb e => e₆ b o (ne1 hb X.nL X.pL) e, rfl, rfl, rfl⟩
      · obtain ⟨old, e⟩ := E₃
        exact ⟨old, e₆ _ _ X.eL (ag.1 _ _ X.nE (Heap.get?_push_of_some _ e))⟩
      · obtain ⟨o, e, rr⟩ := I₃
        exact ⟨o, e₆ _ _ X.iL (ag.1 _ _ X.nI (Heap.get?_push_of_some _ e)), rr⟩
    | false =>
      rw [if_neg Bool.false_ne_true]
      refine x_cons (x_if (wpAny_isTrue_Compare1 (r_loc S₃ v1_ch rfl (c_str fun t₄ => P.eq_str (wpAny_truthy_bool ?_)))))
      have hq : ((⟨#[c']⟩ : Str).cps.toList == (Str.ofString "\\").cps.toList) = decide (c' = 92) := by
        exact one_beq c' 92
      rw [hq]
      by_cases h92 : c' = 92
      · rw [if_pos (by simpa using h92)]
        subst h92
        refine x_cons (x_wrap (wpAny_Assign_Name (c_bool (r_st S₃ v1_escape fun h₆ t₆ S₆ e₆ => ?_))))
        dsimp only [List.set] at S₆
        refine back _ true ti _ S₆ ?_ ?_ _ (mv₃.trans ⟨fun b o hb e => e₆ b o (ne1 hb X.nL X.pL) e, rfl, rfl, rfl⟩)
        · obtain ⟨old, e⟩ := E₃
          exact ⟨old, e₆ _ _ X.eL e⟩
        · obtain ⟨o, e, rr⟩ := I₃
          exact ⟨o, e₆ _ _ X.iL e, rr⟩
      · rw [if_neg (by simpa using h92)]
        have hit : iterE k false (c' :: r) = (k, ⟨#[c']⟩) :: iterE (k + 1) false r := if_neg h92
        rw [hit]
        refine x_cons (x_yield rfl hgd rfl ?_)
        refine Tuple_ (acons (r_loc S₃ v1_pos rfl (acons (r_loc S₃ v1_ch rfl (anil (new_tuple rfl ?_))))))
        intro l' kc pc hkc
        have X₄ := S₃.push { cls := .type "tuple", data := .seq #[.int k ti, .str ⟨#[c']⟩ u] }
        refine ⟨_, l', kc, _, pc, _, rfl, rfl, mv₃.trans ⟨fun b o _ e => Heap.get?_push_of_some _ e, rfl, rfl, rfl⟩, ⟨_, ti, u, rfl, ?_⟩, ?_⟩
        · exact ⟨_, Heap.get?_push_size _ rfl, rfl, 0, rfl⟩
        refine will_of (.inr ⟨kc, l', pc, false, rfl, rfl⟩) fun s₂ ag => ?_
        rw [hkc]
        have S₅ := X₄.agree X.nL ag
        dsimp only [List.set] at S₅
        refine back s₂ false ti _ S₅ ?_ ?_ _ Mv.refl
        · obtain ⟨old, e⟩ := E₃
          exact ⟨old, ag.1 _ _ X.nE (Heap.get?_push_of_some _ e)⟩
        · obtain ⟨o, e, rr⟩ := I₃
          exact ⟨o, ag.1 _ _ X.nI (Heap.get?_push_of_some _ e), rr⟩

theorem gen_tail {K : Flow → Sem Fin} {H : Value → Sem Fin} {gd : Bool → Bool} {lv : List Value → List Value} (hK : ∀ f, K f = .pure (.done (.ret (match f with | .ret v => v | _ => .none)))) (hgd : gd false = false) :
    ∀ s₀ s (k : Nat) esc pv tp cv, St g L (lc 1) [some (.str addr ta), some (.int pv tp), some (.bool esc), cv] [] s.heap → (esc = true → pv = (k : Int) - 1 ∧ 0 < k) → N0 ≤ L → Mv N0 Gp s₀ s →
      SegX (model pg w) A (.func (bd 1) (gEnv L a cd)) ((execs [st 1 3] (gEnv L a cd)).wrap K H gd lv) [] s (Post w A g N0 Gp s₀ (iterE k esc [])) := by
  intro s₀ s k esc pv tp cv S hp nL mv
  obtain ⟨h, gn, d, t, os⟩ := s
  have fin : ∀ s s₀, Mv N0 Gp s₀ s → SegX (model pg w) A (.func (bd 1) (gEnv L a cd)) (K .next) [] s (Post w A g N0 Gp s₀ []) := fun s s₀ m => by
    rw [hK]
    exact s_end pg w A _ _ s (.ok (.ret .none)) _ rfl ⟨rfl, m⟩
  refine x_cons (x_if (isTrue_plain (r_loc S v1_escape rfl (wpAny_truthy_bool ?_))))
  cases esc with
  | false =>
    rw [if_neg Bool.false_ne_true]
    exact fin _ _ mv
  | true =>
    rw [if_pos rfl]
    obtain ⟨rfl, hk⟩ := hp rfl
    refine x_cons (x_yield rfl hgd rfl ?_)
    refine Tuple_ (acons (r_loc S v1_pos rfl (acons (c_str fun t₄ => anil (new_tuple rfl ?_)))))
    intro l' kc pc hkc
    refine ⟨_, l', kc, _, pc, _, rfl, rfl, mv.trans ⟨fun b o _ e => Heap.get?_push_of_some _ e, rfl, rfl, rfl⟩, ⟨_, tp, t, rfl, ?_⟩, ?_⟩
    · have : ((k : Int) - 1) = ((k - 1 : Nat) : Int) := by omega
      rw [this]
      exact ⟨_, Heap.get?_push_size _ rfl, rfl, 0, rfl⟩
    refine will_of (its := []) (.inr ⟨kc, l', pc, false, rfl, rfl⟩) fun s₂ ag => ?_
    rw [hkc]
    exact fin _ _ Mv.refl

theorem gen_will (hA : A.handled = none) (B : Base fa mg mb g) {h : Heap} (S : St g L (lc 1) [some (.str addr ta), none, none, none] [] h) (nL : N0 ≤ L) (pL : Gp ≠ L) (nG : N0 ≤ Gp) (hGp : ∃ o, h.get? Gp = some o) :
    Will w A g N0 Gp (iterE 0 false addr.cps.toList) (.fresh (.func (bd 1) (gEnv L a cd))) h := by
  refine will_of (.inl ⟨rfl, rfl, rfl⟩) fun s ag => ?_
  obtain ⟨h, gn, d, t, os⟩ := s
  replace S := S.agree nL ag
  replace hGp : ∃ o, h.get? Gp = some o := let ⟨o, e⟩ := hGp; ⟨o, ag.1 _ _ nG e⟩
  refine x_func fun K H gd lv hK hgd => ?_
  refine x_cons (x_wrap (wpAny_Assign_Name (c_int fun t₁ => (r_st S v1_pos fun h₂ t₂ S₂ e₂ => ?_))))
  refine x_cons (x_wrap (wpAny_Assign_Name (c_bool (r_st S₂ v1_escape fun h₃ t₃ S₃ e₃ => ?_))))
  refine x_cons (x_for hgd ?_)
  dsimp only [List.set] at S₃
  refine Call_ (r_bt S₃ B g1_enumerate b_enumerate (cw_type (acons (r_loc S₃ v1_addr rfl (anil (call_enumerate_str fun h₄ hE hI hz hk₄ => ?_))))))
  refine wpAny_pyIter_enum hE fun kk l p hkk => ?_
  have hLlt : L < h₃.objs.size := S₃.isNs.lt
  have hGl : Gp < h₃.objs.size := let ⟨o, e⟩ := hGp; Heap.lt_size (e₃ Gp o pL (e₂ Gp o pL e))
  refine gen_loop (E := h₃.objs.size + 1) (I := h₃.objs.size) hA ?_ _ 0 false _ _ ⟨⟨0, t, none, S₃.keeps hk₄, fun e => by cases e⟩, ⟨_, hE⟩, hI, ?_, ?_, ?_, nL, ?_, ?_, ?_, ?_, pL, ?_, ?_⟩ (fun e => by cases e) rfl (Nat.zero_le _) ⟨fun b o hb e => ?_, rfl, rfl, rfl⟩
  · intro s₀ s k esc pv tp cv S' hp nL' mv
    rw [hkk]
    exact gen_tail hK hgd s₀ s k esc pv tp cv S' hp nL' mv
  · exact Nat.succ_ne_self _
  · exact Nat.ne_of_gt (Nat.lt_succ_of_lt hLlt)
  · exact Nat.ne_of_gt hLlt
  · exact Nat.le_trans nL (Nat.le_of_lt (Nat.lt_succ_of_lt hLlt))
  · exact Nat.le_trans nL (Nat.le_of_lt hLlt)
  · cases hq : g.get? (h₃.objs.size + 1) with
    | none => rfl
    | some o => exact absurd (Heap.lt_size (S₃.keep _ _ hq)) (Nat.not_lt.mpr (Nat.le_succ _))
  · cases hq : g.get? h₃.objs.size with
    | none => rfl
    | some o => exact absurd (Heap.lt_size (S₃.keep _ _ hq)) (Nat.lt_irrefl _)
  · exact Nat.ne_of_lt (Nat.lt_succ_of_lt hGl)
  · exact Nat.ne_of_lt hGl
  · have hbL : b ≠ L := ne1 hb nL pL
    exact hk₄ b o (e₃ b o hbL (e₂ b o hbL e))
end
end Mine
end
-- part M5
section
set_option maxRecDepth 100000
set_option linter.unusedVariables false
set_option maxHeartbeats 4000000
namespace Mine
open PySem PySem.Calls PyProof.Rows PySem.W PySem.W.X

noncomputable def hide (h : Heap) (as : List Addr) : Heap := as.foldl (fun h a => h.update a fun o => { o with data := .freed }) h
theorem hide_get (as : List Addr) : ∀ (h : Heap) (b : Addr), (hide h as).get? b = if b ∈ as then none else h.get? b := by
  induction as with
  | nil => intro h b; simp [hide]
  | cons a r ih =>
    intro h b
    show (hide (h.update a fun o => { o with data := .freed }) r).get? b = _
    rw [ih]
    by_cases hr : b ∈ r
    · simp [hr]
    · by_cases ha : b = a
      · subst ha; simp [hr, PyProof.Rows.TI.get?_update_freed]
      · rw [if_neg hr, Heap.get?_update_other _ _ (Ne.symm ha), if_neg (by simp [ha, hr])]
section
variable {g g₂ h h' : Heap} {L : Addr} {ns : List Str} {vals : List (Option Value)} {own : List (Addr × Obj)}
theorem St.rebase (S : St g L ns vals own h) : St (hide h (L :: own.map (·.1))) L ns vals own h where
  isNs := S.isNs
  len := S.len
  keep := fun b o e => by rw [hide_get] at e; split at e <;> first | (cases e; done) | exact e
  gL := by rw [hide_get, if_pos (by simp)]
  isOwn := fun p hp => ⟨(S.isOwn p hp).1, (S.isOwn p hp).2.1, by rw [hide_get, if_pos (List.mem_cons_of_mem _ (List.mem_map.mpr ⟨p, hp, rfl⟩))]⟩
  nd := S.nd
theorem St.below (S : St g L ns vals own h) : Keep g (hide h (L :: own.map (·.1))) := fun b o e => by
  rw [hide_get, if_neg, S.keep b o e]
  intro hm
  rcases List.mem_cons.mp hm with rfl | hm
  · rw [S.gL] at e; cases e
  · obtain ⟨p, hp, rfl⟩ := List.mem_map.mp hm
    rw [(S.isOwn p hp).2.2] at e; cases e
theorem St.weaken (S : St g₂ L ns vals own h) (hk : Keep g g₂) : St g L ns vals own h where
  isNs := S.isNs
  len := S.len
  keep := fun b o e => S.keep b o (hk b o e)
  gL := by cases q : g.get? L with | none => rfl | some o => exact absurd ((hk L o q).symm.trans S.gL) (by simp)
  isOwn := fun p hp => ⟨(S.isOwn p hp).1, (S.isOwn p hp).2.1, by cases q : g.get? p.1 with | none => rfl | some o => exact absurd ((hk p.1 o q).symm.trans (S.isOwn p hp).2.2) (by simp)⟩
  nd := S.nd
theorem St.low {N0 : Nat} (S : St g L ns vals own h) (hL : L < N0) (ho : ∀ p ∈ own, p.1 < N0) (hg : ∀ b o, g.get? b = some o → b < N0) (m : ∀ b o, b < N0 → h.get? b = some o → h'.get? b = some o) : St g L ns vals own h' where
  isNs := S.isNs.at' fun o e => m L o hL e
  len := S.len
  keep := fun b o e => m b o (hg b o e) (S.keep b o e)
  gL := S.gL
  isOwn := fun p hp => ⟨m _ _ (ho p hp) (S.isOwn p hp).1, (S.isOwn p hp).2⟩
  nd := S.nd
end

section
variable {w : World} {A : Around} {E : Value → Shared → Prop} {h : Heap} {gn : Array GenState} {d : Drawn} {t : Nat} {os : OsState} {g : Heap} {L a : Addr} {i : Nat} {vals : List (Option Value)} {own : List (Addr × Obj)}
  {fa : Nat → Addr} {mg mb : Str → Option Value} {n : Str} {cd : Value} {pos : Pos} {sco : Scope} {env : Env}

theorem ok1 : (sc 1).isCoroutine = false ∧ (sc 1).isGenerator = true ∧ (sc 1).kind = .function ∧ (∀ x ∈ (sc 1).names, x.2 ≠ .cell) ∧ (∀ x ∈ (pr 1).args, (sc 1).names.lookup x.arg = some .local ∧ x.arg ∈ lc 1) := by decide +kernel
theorem iter_spec {R : Result → Shared → Prop} {addr : Str} {ta : Tok} (B : Base fa mg mb g) (hk : Keep g h) (hroom : A.depth < recursionLimit)
    (c : ∀ h' t' G st, Keep h h' → h'.IsGen G gn.size → h.objs.size < G → (∀ A' : Around, A'.handled = none → Will w A' g h.objs.size G (iterE 0 false addr.cps.toList) st h') → st.bare = true →
      R (.ok (.ret (.ref G))) ⟨h', gn.push st, d, t', os⟩) :
    codeAny (model pg w) A (.call (.ref (fa 1)) ⟨[.str addr ta], []⟩) R ⟨h, gn, d, t, os⟩ := by
  have Bh := B.keeps hk
  obtain ⟨o, pm, cd, doc, ho, hd, hcr⟩ := (Bh.fn 1 (by decide)).obj
  obtain ⟨q1, q2, q3, q4, q5⟩ := ok1
  refine codeAny_call_generator (s := ⟨h, gn, d, t, os⟩) hroom ho hd q1 q2 rfl hcr ?_
  rw [show bindArgs (docDef (nm 1) (pr 1) (bd 1) (sc 1) pm cd doc) ⟨[.str addr ta], []⟩ = pure (((pr 1).args.map (·.arg)).zip [.str addr ta]) by kernel_rfl]
  refine wpAny_pure (wpAny_newFunctionEnv q4 ?_ (fun h₁ hns hsb => ⟨Bh.nolimit.fresh _ hsb, ?_⟩) q3)
  · intro x hx
    obtain ⟨p, hp, e⟩ := List.mem_map.mp (zip_mem hx)
    rw [← e]; exact (q5 p hp).1
  have hk₁ : Keep h h₁ := fun b o e => hsb.extBut b o (Nat.ne_of_lt (Heap.lt_size e)) (Heap.get?_push_of_some _ e)
  have S : St g h.objs.size (lc 1) (start 1 [.str addr ta]) [] h₁ := ⟨by
      rw [start, slot_map _ _ fun y hy => ?_]
      · exact hns
      · refine lookup_rev_none fun p hp e => hy ?_
        obtain ⟨p', hp', e'⟩ := List.mem_map.mp (zip_mem hp)
        rw [← e, ← e']; exact (q5 p' hp').2, by rw [start, List.length_map], fun b o e => hk₁ b o (hk b o e), by
      cases hq : g.get? h.objs.size with
      | none => rfl
      | some o' => exact absurd (Heap.lt_size (hk _ _ hq)) (Nat.lt_irrefl _), (fun _ hp => by cases hp), by simp⟩
  have hlt : h.objs.size < h₁.objs.size := S.isNs.lt
  have hG : (h₁.push { cls := .type "generator", data := .fields #[.int gn.size 0, .str (nm 1) t, .str (nm 1) (t + 1)] }).IsGen h₁.objs.size gn.size := ⟨_, _, _, Heap.get?_push_size _ rfl, rfl, rfl, rfl⟩
  refine c _ _ h₁.objs.size (.fresh (.func (bd 1) (gEnv h.objs.size (fa 1) cd))) (fun b o e => Heap.get?_push_of_some _ (hk₁ b o e)) ?_ hlt (fun A' hA' => ?_) rfl
  · exact ⟨_, _, _, Heap.get?_push_size _ rfl, rfl, rfl, rfl⟩
  · exact gen_will hA' B (S.keeps fun b o e => Heap.get?_push_of_some _ e) (Nat.le_refl _) (Nat.ne_of_gt hlt) (Nat.le_of_lt hlt) ⟨_, Heap.get?_push_size _ rfl⟩

theorem Agree.trans {g h h' h'' : Heap} {N0 : Nat} (x : Agree g N0 h h') (y : Agree g N0 h' h'') : Agree g N0 h h'' := ⟨fun b o hb e => y.1 b o hb (x.1 b o hb e), y.2⟩
theorem will_agree {N0 G : Nat} {its : List (Nat × Str)} {st : GenState} {h h' : Heap} (W : Will w A g N0 G its st h) (a : Agree g N0 h h') : Will w A g N0 G its st h' := by
  cases its with
  | nil => obtain ⟨c, t, fs, hs, x⟩ := W; exact ⟨c, t, fs, hs, fun s ag => x s (a.trans ag)⟩
  | cons y r => obtain ⟨c, t, fs, hs, x⟩ := W; exact ⟨c, t, fs, hs, fun s ag => x s (a.trans ag)⟩
theorem set_last {gn : Array GenState} {a b : GenState} : (gn.push a).setIfInBounds gn.size b = gn.push b := by
  apply Array.ext'
  simp
theorem letGen {elts : List PySem.Expr} {k : Nat} {G gi : Nat} {v : Value} {Q : Unit → Shared → Prop} (hG : h.IsGen G gi) (c : Q () ⟨h, gn, d, t, os⟩) : wpAny (model pg w) A (letOwnedTupleGo (.Tuple elts k pos) (.ref G) v) Q E ⟨h, gn, d, t, os⟩ := by
  obtain ⟨o, nm, qn, ho, hc, hd, hs⟩ := hG
  cases v with
  | ref a =>
    show wpAny _ A (load G >>= _) Q E _
    refine wpAny_bind (wpAny_load ho ?_)
    rw [hc, hd]
    exact wpAny_pure c
  | _ => exact wpAny_pure c

theorem gen_for {x1 x2 : Str} {k1 k2 kT : Nat} {p1 p2 pt : Pos} {body : List Stmt} {R : Result → Shared → Prop} {N0 G : Nat}
    (hA : A.handled = none) (hroom : A.depth < recursionLimit) (B : Base fa mg mb g) (q1 : LocS sco x1 k1) (q2 : LocS sco x2 k2)
    (hg : ∀ b o, g.get? b = some o → b < N0) (hL : L < N0) (J : List (Nat × Str) → List (Option Value) → List (Addr × Obj) → Prop)
    (turn : ∀ x r vals own g₂ h t y tk1 tk2, J (x :: r) vals own → Keep g g₂ → y.bare = true → St g₂ L (lcS sco) ((vals.set k1 (some (.int (x.1 : Int) tk1))).set k2 (some (.str x.2 tk2))) own h →
      wpAny (model pg w) A (execs body env) (fun f s' => (f = .next ∧ ∃ h' t' vals' own', s' = ⟨h', gn.push y, d, t', os⟩ ∧ St g₂ L (lcS sco) vals' own' h' ∧ own'.map (·.1) = own.map (·.1) ∧ J r vals' own') ∨ (∃ v, f = .ret v ∧ R (.ok (.ret v)) s'))
        (fun _ _ => False) ⟨h, gn.push y, d, t, os⟩)
    (done : ∀ vals own h t y, J [] vals own → y.bare = true → St g L (lcS sco) vals own h → R (.ok .next) ⟨h, gn.push y, d, t, os⟩)
    {items : List (Nat × Str)} {st : GenState} (hJ : J items vals own) (S : St g L (lcS sco) vals own h) (hown : ∀ p ∈ own, p.1 < N0) (hG : h.IsGen G gn.size) (nG : N0 ≤ G) (W : Will w A.in1 g N0 G items st h) (V : EnvIs env sco L := by exact ⟨rfl, rfl, rfl, rfl⟩) :
    codeAny (model pg w) A (.forLoop (.Tuple [.Name x1 p1, .Name x2 p2] kT pt) (.ref G) body [] env) R ⟨h, gn.push st, d, t, os⟩ := by
  obtain ⟨Inv, hInv⟩ : ∃ Inv : Nat → Shared → Prop, Inv = fun m s => ∃ items vals own h t st, s = ⟨h, gn.push st, d, t, os⟩ ∧ m = items.length ∧ J items vals own ∧ St g L (lcS sco) vals own h ∧ (∀ p ∈ own, p.1 < N0) ∧ h.IsGen G gn.size ∧ Will w A.in1 g N0 G items st h := ⟨_, rfl⟩
  refine codeAny_forLoop_any Inv ?_ items.length
    (by rw [hInv]; exact ⟨items, vals, own, h, t, st, rfl, rfl, hJ, S, hown, hG, W⟩)
  clear hJ S hown hG W
  intro m s hInv0
  rw [hInv] at hInv0
  obtain ⟨items, vals, own, h, t, st, rfl, rfl, hJ, S, hown, hG, W⟩ := hInv0
  cases items with
  | nil =>
    obtain ⟨c, t₀, fs, hs, x⟩ := W
    refine pyNextX hA (B.nolimit.keeps S.keep) hroom hG (by simp) hs ((x _ ⟨fun _ _ _ e => e, S.keep⟩).mono fun e s₁ he => ?_)
    obtain ⟨rfl, mv⟩ := he
    refine ⟨rfl, fun h' hk' => ?_⟩
    have S₁ := (S.low hL hown hg fun b o hb e => hk' b o (mv.low b o (.inl hb) e))
    have e2 : ({ s₁.setGen gn.size .finished with heap := h' } : Shared) = ⟨h', gn.push .finished, d, s₁.toks, os⟩ := by
      obtain ⟨h₁, g₁, d₁, t₁, os₁⟩ := s₁
      have e1 : g₁ = (gn.push st).setIfInBounds gn.size .running := mv.gens
      have e3 : d₁ = d := mv.drawn
      have e4 : os₁ = os := mv.os
      subst e1 e3 e4
      show (⟨h', ((gn.push st).setIfInBounds gn.size .running).setIfInBounds gn.size .finished, _, _, _⟩ : Shared) = _
      rw [set_last, set_last]; rfl
    rw [e2]
    exact wpAny_execs_nil (done vals own h' _ _ hJ rfl S₁)
  | cons y r =>
    obtain ⟨c, t₀, fs, hs, x⟩ := W
    refine pyNextX hA (B.nolimit.keeps S.keep) hroom hG (by simp) hs ((x _ ⟨fun _ _ _ e => e, S.keep⟩).mono fun e s₁ he => ?_)
    obtain ⟨v, l, k, c', p, fs', rfl, hgd, mv, hI, W'⟩ := he
    obtain ⟨h₁, g₁, d₁, t₁, os₁⟩ := s₁
    have e1 : g₁ = (gn.push st).setIfInBounds gn.size .running := mv.gens
    have e3 : d₁ = d := mv.drawn
    have e4 : os₁ = os := mv.os
    subst e1 e3 e4
    have e2 : ((⟨h₁, (gn.push st).setIfInBounds gn.size .running, d₁, t₁, os₁⟩ : Shared).setGen gn.size (End.susp v false l k c' p fs').genState) = ⟨h₁, gn.push (.suspended k l c' p fs' false), d₁, t₁, os₁⟩ := by
      show (⟨h₁, ((gn.push st).setIfInBounds gn.size .running).setIfInBounds gn.size (.suspended k l c' p fs' (false || fs'.any Frame.guarded)), _, _, _⟩ : Shared) = _
      rw [set_last, set_last, hgd]; rfl
    show wpAny _ A (letOwnedTupleGo _ (.ref G) v) _ _ ((⟨h₁, (gn.push st).setIfInBounds gn.size .running, d₁, t₁, os₁⟩ : Shared).setGen gn.size (End.susp v false l k c' p fs').genState)
    rw [e2]
    have hG₁ : h₁.IsGen G gn.size := let ⟨o, nm, qn, ho, rr⟩ := hG; ⟨o, nm, qn, mv.low G o (.inr rfl) ho, rr⟩
    have S₁ := S.low hL hown hg fun b o hb e => mv.low b o (.inl hb) e
    refine letGen hG₁ ?_
    obtain ⟨T, ti, ts, rfl, hT⟩ := hI
    have S₂ := S₁.rebase
    have up : ∀ b o, N0 ≤ b → h₁.get? b = some o → (hide h₁ (L :: own.map (·.1))).get? b = some o := fun b o hb e => by
      rw [hide_get, if_neg, e]
      intro hm
      rcases List.mem_cons.mp hm with rfl | hm
      · exact absurd hL (Nat.not_lt.mpr hb)
      · obtain ⟨p, hp, rfl⟩ := List.mem_map.mp hm
        exact absurd (hown p hp) (Nat.not_lt.mpr hb)
    refine asg2 hA S₂ hT q1 q2 (fun h₃ t₃ S₃ _ => ?_) V
    refine wpAny_mono (turn y r vals own _ h₃ t₃ _ ti ts hJ S₁.below rfl S₃) (fun f s₃ h₃' => ?_) fun _ _ h => h.elim
    rcases h₃' with ⟨rfl, h', t', vals', own', rfl, S₄, ho, hJ'⟩ | ⟨v, rfl, hr⟩
    · refine ⟨r.length, Nat.lt_succ_self _, ?_⟩
      rw [hInv]
      refine ⟨r, vals', own', h', t', _, rfl, rfl, hJ', S₄.weaken S₁.below, fun p hp => ?_, ?_, will_agree W' ⟨fun b o hb e => S₄.keep b o (up b o hb e), (S₄.weaken S₁.below).keep⟩⟩
      · have hm : p.1 ∈ own'.map (·.1) := List.mem_map.mpr ⟨p, hp, rfl⟩
        rw [ho] at hm
        obtain ⟨q, hq, e⟩ := List.mem_map.mp hm
        rw [← e]; exact hown q hq
      · obtain ⟨o, nm', qn, ho', rr⟩ := hG₁
        exact ⟨o, nm', qn, S₄.keep G o (up G o nG ho'), rr⟩
    · exact hr
end
end Mine
end
-- part M6
section
set_option maxRecDepth 100000
set_option linter.unusedVariables false
set_option maxHeartbeats 4000000
namespace Mine
open PyProof PySem PySem.Calls PyProof.Rows PySem.W PySem.W.X

/-- the count of brackets, turn by turn -/
noncomputable def chk : Int → List (Nat × Str) → Bool
  | o, [] => o == 0
  | o, x :: r => if x.2.cps.toList == [40] then chk (o + 1) r else if x.2.cps.toList == [41] then (if o - 1 < 0 then false else chk (o - 1) r) else chk o r

section
variable {w : World} {A : Around} {E : Value → Shared → Prop} {h : Heap} {gn : Array GenState} {d : Drawn} {t : Nat} {os : OsState} {g : Heap} {L a : Addr} {i : Nat} {vals : List (Option Value)} {own : List (Addr × Obj)}
  {fa : Nat → Addr} {mg mb : Str → Option Value} {n : Str} {cd : Value} {pos : Pos} {sco : Scope} {env : Env}

/-- a def of the text's called by its name -/
theorem call_fn {j : Nat} {e : PySem.Expr} {rest : List PySem.Expr} {Q : Value → Shared → Prop} (B : Base fa mg mb g) (hi : j ∈ fnIds)
    (c : wpAny (model pg w) A (spliced (backTo pos (starEach (e :: rest) env))) (fun vs s₁ => Keep g s₁.heap ∧ wpAny (model pg w) A (call (.ref (fa j)) vs) Q E s₁) E ⟨h, gn, d, t, os⟩)
    (hn : notStar e = true := by rfl) :
    wpAny (model pg w) A (callWith pos (.ref (fa j)) [] (backTo pos (starEach (e :: rest) env)) []) Q E ⟨h, gn, d, t, os⟩ := by
  obtain ⟨o, pm, cd', doc, ho, hd, hcr⟩ := (B.fn j hi).obj
  exact callWith_def hd (wpAny_mono c (fun vs s₁ h₁ => ⟨h₁.1 _ _ ho, h₁.2⟩) fun _ _ x => x) (star1 hn)

theorem check_loop {R : Result → Shared → Prop} {G : Addr} {addr : Str} {ta : Tok} {items : List (Nat × Str)} {y : GenState} {kT : Nat} {p1 p2 pt : Pos} (hA : A.handled = none) (hroom : A.depth < recursionLimit) (B : Base fa mg mb g)
    {N0 : Nat} {o₀ : Int} {to : Tok} {v2 v3 : Option Value} (hg : ∀ b o, g.get? b = some o → b < N0) (hL : L < N0) (S : St g L (lc 3) [some (.str addr ta), some (.int o₀ to), v2, v3] [] h) (hG : h.IsGen G gn.size) (nG : N0 ≤ G) (W : Will w A.in1 g N0 G items y h)
    (cf : ∀ h' t' y', y'.bare = true → Keep g h' → chk o₀ items = false → R (.ok (.ret (.bool false))) ⟨h', gn.push y', d, t', os⟩)
    (ct : ∀ h' t' y' o' to' v2 v3, y'.bare = true → St g L (lc 3) [some (.str addr ta), some (.int o' to'), v2, v3] [] h' → chk o₀ items = (o' == 0) → R (.ok .next) ⟨h', gn.push y', d, t', os⟩) :
    codeAny (model pg w) A (.forLoop (.Tuple [.Name "pos" p1, .Name "ch" p2] kT pt) (.ref G) (forB (st 3 2)) [] (envOf n (sc 3) L a cd)) R ⟨h, gn.push y, d, t, os⟩ := by
  refine gen_for hA hroom B v3_pos v3_ch hg hL (fun its vals own => own = [] ∧ ∃ o to v2 v3, vals = [some (.str addr ta), some (.int o to), v2, v3] ∧ chk o₀ items = chk o its) ?_ ?_ ⟨rfl, _, _, _, _, rfl, rfl⟩ S (fun _ h => by cases h) hG nG W
  · intro x r vals own g₂ h t y tk1 tk2 hpat10 hk hy S₁
    refine abs_q fun Q1 hQ1 => ?_
    obtain ⟨rfl, o, to, v2, v3, rfl, ho⟩ := hpat10
    refine wpAny_execs_cons (wpAny_If (wpAny_isTrue_Compare1 (r_loc S₁ v3_ch rfl (c_str fun t₁ => P.eq_str (wpAny_truthy_bool ?_)))))
    rw [show (Str.ofString "(").cps.toList = [40] from by decide +kernel]
    have e : chk o (x :: r) = if x.2.cps.toList == [40] then chk (o + 1) r else if x.2.cps.toList == [41] then (if o - 1 < 0 then false else chk (o - 1) r) else chk o r := rfl
    rw [e] at ho
    cases h1 : (x.2.cps.toList == [40]) with
    | true =>
      rw [if_pos h1] at ho
      rw [if_pos rfl]
      refine wpAny_execs_cons (wpAny_AugAssign_Name (r_ldn S₁ v3_opens rfl (c_int fun t₂ => P.iadd_int (r_st S₁ v3_opens fun h₂ t₃ S₂ _ => wpAny_execs_nil (wpAny_execs_nil ?_)))))
      exact hQ1 _ _ (.inl ⟨rfl, _, _, _, _, rfl, S₂, rfl, rfl, _, _, _, _, rfl, ho⟩)
    | false =>
      rw [if_neg (by rw [h1]; exact Bool.false_ne_true)] at ho
      rw [if_neg Bool.false_ne_true]
      refine wpAny_execs_cons (wpAny_If (wpAny_isTrue_Compare1 (r_loc S₁ v3_ch rfl (c_str fun t₁ => P.eq_str (wpAny_truthy_bool ?_)))))
      rw [show (Str.ofString ")").cps.toList = [41] from by decide +kernel]
      cases h2 : (x.2.cps.toList == [41]) with
      | true =>
        rw [if_pos h2] at ho
        rw [if_pos rfl]
        refine wpAny_execs_cons (wpAny_AugAssign_Name (r_ldn S₁ v3_opens rfl (c_int fun t₂ => P.isub_int (r_st S₁ v3_opens fun h₂ t₃ S₂ _ => ?_))))
        refine wpAny_execs_cons (wpAny_If (wpAny_isTrue_Compare1 (r_loc S₂ v3_opens rfl (c_int fun t₄ => P.lt_int (wpAny_truthy_bool ?_)))))
        by_cases h3 : o - 1 < 0
        · rw [if_pos h3] at ho
          rw [if_pos (decide_eq_true h3)]
          refine wpAny_execs_cons (wpAny_Return_some (c_bool ?_))
          exact hQ1 _ _ (.inr ⟨_, rfl, cf _ _ _ hy (fun b o e => S₂.keep b o (hk b o e)) ho⟩)
        · rw [if_neg h3] at ho
          rw [if_neg (by rw [decide_eq_false h3]; exact Bool.false_ne_true)]
          repeat refine wpAny_execs_nil ?_
          exact hQ1 _ _ (.inl ⟨rfl, _, _, _, _, rfl, S₂, rfl, rfl, _, _, _, _, rfl, ho⟩)
      | false =>
        rw [if_neg (by rw [h2]; exact Bool.false_ne_true)] at ho
        rw [if_neg Bool.false_ne_true]
        repeat refine wpAny_execs_nil ?_
        exact hQ1 _ _ (.inl ⟨rfl, _, _, _, _, rfl, S₁, rfl, rfl, _, _, _, _, rfl, ho⟩)
  · rintro vals own h t y ⟨rfl, o, to, v2, v3, rfl, ho⟩ hy S
    exact ct h t y o to v2 v3 hy S ho

/-- the pieces ahead of and behind the quoted parts -/
noncomputable def stp (x : Str) : Int → Option Int → List Str → List (Nat × Str) → Int × List Str
  | s, _, res, [] => (s, res)
  | s, op, res, y :: r => if y.2.cps.toList == [34] then
      match op with
      | none => stp x s (some (y.1 : Int)) res r
      | some p => stp x ((y.1 : Int) + 1) none (if s != p then res ++ [Txt.slice x (some s) (some p)] else res) r
    else stp x s op res r
theorem stp_no {x : Str} {s : Int} {op : Option Int} {res : List Str} {y : Nat × Str} {r : List (Nat × Str)} (h : ¬ (y.2.cps.toList == [34]) = true) : stp x s op res (y :: r) = stp x s op res r := by
  cases op <;> exact if_neg h
theorem stp_none {x : Str} {s : Int} {res : List Str} {y : Nat × Str} {r : List (Nat × Str)} (h : (y.2.cps.toList == [34]) = true) : stp x s none res (y :: r) = stp x s (some (y.1 : Int)) res r := if_pos h
theorem stp_some {x : Str} {s p : Int} {res : List Str} {y : Nat × Str} {r : List (Nat × Str)} (h : (y.2.cps.toList == [34]) = true) :
    stp x s (some p) res (y :: r) = stp x ((y.1 : Int) + 1) none (if s != p then res ++ [Txt.slice x (some s) (some p)] else res) r := if_pos h
theorem none_is : (Value.none == Value.none) = true := by decide +kernel
theorem int_isnt (i : Int) (u : Tok) : ¬ (Value.int i u == Value.none) = true := by
  show ¬ (decide (Value.int i u = Value.none)) = true
  simp
noncomputable def OpOk : Option Int → Value → Prop
  | none, v => v = .none
  | some p, v => ∃ tk, v = .int p tk
theorem strs_snoc {vs : List Value} {ys : List Str} {y : Str} {tk : Tok} (h : StrsAre vs ys) : StrsAre (vs ++ [.str y tk]) (ys ++ [y]) := by
  induction h with
  | nil => exact .cons y tk .nil
  | cons z u _ ih => exact .cons z u ih
theorem strs_len {vs : List Value} {ys : List Str} (h : StrsAre vs ys) : vs.length = ys.length := by
  induction h with
  | nil => rfl
  | cons z u _ ih => simp [ih]

theorem strip_loop {R : Result → Shared → Prop} {G D : Addr} {addr : Str} {ta : Tok} {items : List (Nat × Str)} {y : GenState} {kT : Nat} {p1 p2 pt : Pos} (hA : A.handled = none) (hroom : A.depth < recursionLimit) (B : Base fa mg mb g)
    {N0 : Nat} {ts : Tok} {v4 v5 : Option Value} {nn : Nat} (hx : addr.length ≤ 1000) (hi : items.length ≤ 1001) (hg : ∀ b o, g.get? b = some o → b < N0) (hL : L < N0) (hD : D < N0)
    (S : St g L (lc 2) [some (.str addr ta), some (.int 0 ts), some .none, some (.ref D), v4, v5] [(D, lst #[] nn)] h) (hG : h.IsGen G gn.size) (nG : N0 ≤ G) (W : Will w A.in1 g N0 G items y h)
    (c : ∀ h' t' y' s ts v2 v4 v5 its nn res, y'.bare = true → St g L (lc 2) [some (.str addr ta), some (.int s ts), some v2, some (.ref D), v4, v5] [(D, lst its nn)] h' → stp addr 0 none [] items = (s, res) → StrsAre its.toList res →
      (res.map (·.length)).sum ≤ 1001000 → res.length ≤ 1001 → R (.ok .next) ⟨h', gn.push y', d, t', os⟩) :
    codeAny (model pg w) A (.forLoop (.Tuple [.Name "pos" p1, .Name "ch" p2] kT pt) (.ref G) (forB (st 2 4)) [] (envOf n (sc 2) L a cd)) R ⟨h, gn.push y, d, t, os⟩ := by
  refine gen_for hA hroom B v2_pos v2_ch hg hL (fun its vals own => ∃ s ts op vop res its' nn v4 v5, own = [(D, lst its' nn)] ∧ vals = [some (.str addr ta), some (.int s ts), some vop, some (.ref D), v4, v5] ∧ OpOk op vop ∧ StrsAre its'.toList res ∧
      stp addr 0 none [] items = stp addr s op res its ∧ (res.map (·.length)).sum + 1000 * its.length ≤ 1001000 ∧ res.length + its.length ≤ 1001) ?_ ?_ ⟨0, ts, none, .none, [], #[], nn, v4, v5, rfl, rfl, rfl, .nil, rfl, ?_, ?_⟩ S (fun p h => ?_) hG nG W
  · intro x r vals own g₂ h t y tk1 tk2 hpat10 hk hy S₁
    refine abs_q fun Q2 hQ2 => ?_
    obtain ⟨s, ts, op, vop, res, its', nn, v4, v5, rfl, rfl, hop, hs, ho, hz1, hz2⟩ := hpat10
    simp only [List.length_cons] at hz1 hz2
    refine wpAny_execs_cons (wpAny_If (wpAny_isTrue_Compare1 (r_loc S₁ v2_ch rfl (c_str fun t₁ => P.eq_str (wpAny_truthy_bool ?_)))))
    rw [show (Str.ofString "\"").cps.toList = [34] from by decide +kernel]
    cases h1 : (x.2.cps.toList == [34]) with
    | false =>
      rw [if_neg Bool.false_ne_true]
      repeat refine wpAny_execs_nil ?_
      have e : stp addr s op res (x :: r) = stp addr s op res r := stp_no (by rw [h1]; exact Bool.false_ne_true)
      exact hQ2 _ _ (.inl ⟨rfl, _, _, _, _, rfl, S₁, rfl, s, ts, op, vop, res, its', nn, _, _, rfl, rfl, hop, hs, ho.trans e, by lia, by lia⟩)
    | true =>
      rw [if_pos rfl]
      refine wpAny_execs_cons (wpAny_If (wpAny_isTrue_Compare1 (r_loc S₁ v2_open_pos rfl (c_none (is_none (wpAny_truthy_bool ?_))))))
      cases op with
      | none =>
        have hv : vop = .none := hop
        subst hv
        rw [if_pos none_is]
        have e := stp_none (x := addr) (s := s) (res := res) (r := r) h1
        refine wpAny_execs_cons (wpAny_Assign_Name (r_loc S₁ v2_pos rfl (r_st S₁ v2_open_pos fun h₂ t₂ S₂ _ => ?_)))
        repeat refine wpAny_execs_nil ?_
        exact hQ2 _ _ (.inl ⟨rfl, _, _, _, _, rfl, S₂, rfl, s, ts, some _, _, res, its', nn, _, _, rfl, rfl, ⟨_, rfl⟩, hs, ho.trans e, by lia, by lia⟩)
      | some p =>
        obtain ⟨tp, rfl⟩ := hop
        rw [if_neg (int_isnt p tp)]
        have e := stp_some (x := addr) (s := s) (p := p) (res := res) (r := r) h1
        have hn := strs_len hs
        refine wpAny_execs_cons (wpAny_mono (E := fun _ _ => False) (Q := fun f s' => f = .next ∧ ∃ h₃ t₃ its₃ nn₃, s' = ⟨h₃, gn.push y, d, t₃, os⟩ ∧ St g₂ L (lc 2) [some (.str addr ta), some (.int s ts), some (.int p tp), some (.ref D), some (.int (x.1 : Int) tk1), some (.str x.2 tk2)] [(D, lst its₃ nn₃)] h₃ ∧
          StrsAre its₃.toList (if s != p then res ++ [Txt.slice addr (some s) (some p)] else res)) ?_ (fun f s' hp => ?_) fun _ _ h => h.elim)
        · refine wpAny_If (wpAny_isTrue_Compare1 (r_loc S₁ v2_start rfl (r_loc S₁ v2_open_pos rfl (P.ne_int (wpAny_truthy_bool ?_)))))
          cases hq : (s != p) with
          | false =>
            rw [if_neg Bool.false_ne_true]
            refine wpAny_execs_nil ⟨rfl, h, _, its', nn, rfl, S₁, ?_⟩
            rw [if_neg Bool.false_ne_true]; exact hs
          | true =>
            rw [if_pos rfl, if_pos rfl]
            refine wpAny_execs_cons (wpAny_Expr (MethodCall_ (r_loc S₁ v2_result rfl (gm_append (pre := []) S₁ (cw_meth (acons (wpAny_Subscript_str_slice (r_loc S₁ v2_addr rfl (r_loc S₁ v2_start rfl (r_loc S₁ v2_open_pos rfl ?_))))))))))
            refine ⟨addr, ta, some (s, ts), some (p, tp), rfl, rfl, rfl, made_slice (le_line (by lia)) fun tk t' => anil ?_⟩
            have S₂ := (S₁.push { cls := .type "slice", data := .fields #[.int s ts, .int p tp, .none] }).drop (List.sublist_cons_self _ _)
            refine do_append (pre := []) S₂ (le_line (by have : its'.size = its'.toList.length := by simp
                                                         lia)) fun h₃ S₃ => wpAny_execs_nil ⟨rfl, h₃, _, _, _, rfl, S₃, ?_⟩
            rw [Array.toList_push]
            exact strs_snoc hs
        · obtain ⟨rfl, h₃, t₃, its₃, nn₃, rfl, S₃, hs₃⟩ := hp
          refine wpAny_execs_cons (wpAny_Assign_Name (wpAny_BinOp (r_loc S₃ v2_pos rfl (c_int fun t₄ => P.add_int (r_st S₃ v2_start fun h₄ t₅ S₄ _ => ?_)))))
          refine wpAny_execs_cons (wpAny_Assign_Name (c_none (r_st S₄ v2_open_pos fun h₅ t₆ S₅ _ => ?_)))
          repeat refine wpAny_execs_nil ?_
          have hsl := Txt.length_slice_le addr (some s) (some p)
          have hz : (((if s != p then res ++ [Txt.slice addr (some s) (some p)] else res) : List Str).map (·.length)).sum ≤ (res.map (·.length)).sum + 1000 := by
            split
            · rw [List.map_append, List.sum_append]; simp; lia
            · lia
          have hz' : ((if s != p then res ++ [Txt.slice addr (some s) (some p)] else res) : List Str).length ≤ res.length + 1 := by
            split
            · simp
            · lia
          exact hQ2 _ _ (.inl ⟨rfl, _, _, _, _, rfl, S₅, rfl, _, _, none, _, _, its₃, nn₃, _, _, rfl, rfl, rfl, hs₃, ho.trans e, by lia, by lia⟩)
  · rintro vals own h t y ⟨s, ts, op, vop, res, its', nn, v4, v5, rfl, rfl, hop, hs, ho, hz1, hz2⟩ hy S
    exact c h t y s ts vop v4 v5 its' nn res hy S ho hs (by simpa using hz1) (by simpa using hz2)
  · simp; lia
  · simpa using hi
  · rw [List.mem_singleton.mp h]; exact hD
end
end Mine
end
-- part M7
section
set_option maxRecDepth 100000
set_option linter.unusedVariables false
set_option maxHeartbeats 4000000
namespace Mine
open PyProof PySem PySem.Calls PyProof.Rows PySem.W PySem.W.X

noncomputable def strip (x : Str) : Str :=
  if Txt.contains x "\"" then
    Txt.join "" (if (stp x 0 none [] (iterE 0 false x.cps.toList)).1 < (x.length : Int) then (stp x 0 none [] (iterE 0 false x.cps.toList)).2 ++ [Txt.slice x (some (stp x 0 none [] (iterE 0 false x.cps.toList)).1) none] else (stp x 0 none [] (iterE 0 false x.cps.toList)).2)
  else x
noncomputable def checkP (x : Str) : Bool := chk 0 (iterE 0 false (strip x).cps.toList)
/-- the generators: all bare stay all bare -/
noncomputable abbrev GX (a b : Array GenState) : Prop := AllBare a → AllBare b
theorem iterE_len : ∀ (cs : List Nat) (k : Nat) (e : Bool), (iterE k e cs).length ≤ cs.length + (if e then 1 else 0) := by
  intro cs
  induction cs with
  | nil => intro k e; cases e <;> simp [iterE]
  | cons c r ih =>
    intro k e
    cases e with
    | true =>
      have := ih (k + 1) false
      simp [iterE] at this ⊢; lia
    | false =>
      by_cases h : c = 92
      · have := ih (k + 1) true
        simp [iterE, h] at this ⊢; lia
      · have := ih (k + 1) false
        simp [iterE, h] at this ⊢; lia
theorem items_le {x : Str} (hx : x.length ≤ 1000) : (iterE 0 false x.cps.toList).length ≤ 1001 := by
  have := iterE_len x.cps.toList 0 false
  have e : x.cps.toList.length = x.length := by simp [Str.length]
  simp only [Bool.false_eq_true, if_false] at this
  lia

section
variable {w : World} {A : Around} {E : Value → Shared → Prop} {h : Heap} {gn : Array GenState} {d : Drawn} {t : Nat} {os : OsState} {g : Heap} {L a : Addr} {i : Nat} {vals : List (Option Value)} {own : List (Addr × Obj)}
  {fa : Nat → Addr} {mg mb : Str → Option Value} {n : Str} {cd : Value} {pos : Pos}
theorem ok2 : DefOk 2 := by decide +kernel
theorem ok3 : DefOk 3 := by decide +kernel

theorem strip_spec {R : Result → Shared → Prop} {x : Str} {tx : Tok} (B : Base fa mg mb h) (hA : A.handled = none) (hroom : A.depth + 5 < recursionLimit) (hx : x.length ≤ 1000)
    (c : ∀ h' t' gn' tk, Keep h h' → GX gn gn' → R (.ok (.ret (.str (strip x) tk))) ⟨h', gn', d, t', os⟩) :
    codeAny (model pg w) A (.call (.ref (fa 2)) ⟨[.str x tx], []⟩) R ⟨h, gn, d, t, os⟩ := by
  refine enter B (by decide) ok2 (by lia) (fun _ _ _ => by kernel_rfl) fun L cd h₁ t₁ ht₁ hL₁ S => ?_
  refine wpAny_execs_cons (wpAny_If (wpAny_isTrue_Compare1 (c_str fun t₂ => r_loc S v2_addr rfl (SB.notContains (wpAny_truthy_bool ?_)))))
  cases hq : Txt.contains x "\"" with
  | false =>
    rw [if_pos (by decide)]
    refine wpAny_execs_cons (wpAny_Return_some (r_loc S v2_addr rfl ?_))
    have e : strip x = x := by unfold strip; rw [hq]; rfl
    simp only [e] at c
    exact c _ _ _ _ S.keep id
  | true =>
    rw [if_neg (by decide)]
    refine wpAny_execs_nil ?_
    refine wpAny_execs_cons (wpAny_Assign_Name (c_int fun t₂ => r_st S v2_start fun h₂ t₃ S₂ _ => ?_))
    refine wpAny_execs_cons (wpAny_Assign_Name (c_none (r_st S₂ v2_open_pos fun h₃ t₄ S₃ _ => ?_)))
    refine wpAny_execs_cons (wpAny_Assign_Name (List_ (anil (new_list (by decide) ?_))))
    have S₄ := S₃.push (lst #[] 0)
    refine r_st S₄ v2_result fun h₅ t₅ S₅ _ => ?_
    have hD : h₃.objs.size < h₅.objs.size := Heap.lt_size (S₅.isOwn _ (.head _)).1
    generalize h₃.objs.size = D at S₅ hD
    refine wpAny_execs_cons (wpAny_For (Call_ (r_fn S₅ B g2__iter_escaped_chars (by decide) (call_fn B (by decide) (acons (r_loc S₅ v2_addr rfl (anil ⟨S₅.keep, wpAny_call (iter_spec B S₅.keep (by show A.depth + 1 < _; lia) fun h₆ t₆ G y hk₆ hG nG W hy => ?_)⟩)))))))
    have S₆ := S₅.keeps hk₆
    refine wpAny_pyIter_gen hG (strip_loop (A := A.deeper (envOf (nm 2) (sc 2) L (fa 2) cd)) hA (by show A.depth + 1 < _; lia) B hx (items_le hx) (fun b o e => Heap.lt_size (S₅.keep b o e)) S₅.isNs.lt hD S₆ hG (Nat.le_of_lt nG) (W _ hA) ?_)
    intro h₇ t₇ y' s ts v2 v4 v5 its nn res hy' S₇ hst hs hz1 hz2
    have gx : GX gn (gn.push y') := fun ha => ha.push hy'
    have e : strip x = Txt.join "" (if s < (x.length : Int) then res ++ [Txt.slice x (some s) none] else res) := by
      unfold strip; rw [hq, if_pos rfl, hst]
    have hn := strs_len hs
    have hsl := Txt.length_slice_le x (some s) none
    have hl : x.length < 2 ^ 62 := Nat.lt_of_le_of_lt hx (by decide)
    refine wpAny_execs_cons (wpAny_mono (E := fun _ _ => False) (Q := fun f s' => f = .next ∧ ∃ h₃ t₃ its₃ nn₃, s' = ⟨h₃, gn.push y', d, t₃, os⟩ ∧ St h L (lc 2) [some (.str x tx), some (.int s ts), some v2, some (.ref D), v4, v5] [(D, lst its₃ nn₃)] h₃ ∧
          StrsAre its₃.toList (if s < (x.length : Int) then res ++ [Txt.slice x (some s) none] else res)) ?_ (fun f s' hp => ?_) fun _ _ h => h.elim)
    · refine wpAny_If (wpAny_isTrue_Compare1 (r_loc S₇ v2_start rfl (Call_ (r_bt S₇ B g2_len b_len (cw_bt (acons (r_loc S₇ v2_addr rfl (anil (P.len_str (by lia) (P.lt_int (wpAny_truthy_bool ?_)))))))))))
      by_cases h8 : s < (x.length : Int)
      · rw [if_pos (decide_eq_true h8), if_pos h8]
        refine wpAny_execs_cons (wpAny_Expr (MethodCall_ (r_loc S₇ v2_result rfl (gm_append (pre := []) S₇ (cw_meth (acons (wpAny_Subscript_str_slice (r_loc S₇ v2_addr rfl (r_loc S₇ v2_start rfl (wpAny_pure ?_)))))))))) 
        refine ⟨x, tx, some (s, ts), none, rfl, rfl, rfl, made_slice (le_line (by lia)) fun tk t' => anil ?_⟩
        have S₈ := (S₇.push { cls := .type "slice", data := .fields #[.int s ts, .none, .none] }).drop (List.sublist_cons_self _ _)
        refine do_append (pre := []) S₈ (le_line (by have : its.size = its.toList.length := by simp
                                                     lia)) fun h₃ S₉ => wpAny_execs_nil ⟨rfl, h₃, _, _, _, rfl, S₉, ?_⟩
        rw [Array.toList_push]
        exact strs_snoc hs
      · rw [if_neg (by rw [decide_eq_false h8]; exact Bool.false_ne_true)]
        refine wpAny_execs_nil ⟨rfl, h₇, _, its, nn, rfl, S₇, ?_⟩
        rw [if_neg h8]; exact hs
    · obtain ⟨rfl, h₃, t₃, its₃, nn₃, rfl, S₈, hs₃⟩ := hp
      have hz : (((if s < (x.length : Int) then res ++ [Txt.slice x (some s) none] else res) : List Str).map (·.length)).sum ≤ (res.map (·.length)).sum + 1000 := by
        split
        · rw [List.map_append, List.sum_append]; simp; lia
        · lia
      refine wpAny_execs_cons (wpAny_Return_some (MethodCall_ ?_))
      refine c_str fun t₈ => ?_
      refine GM.join ?_
      refine (cw_meth (acons (r_loc S₈ v2_result rfl (anil (join_list ⟨_, (S₈.isOwn _ (.head _)).1, rfl, _, rfl⟩ hs₃ ?_ fun t₉ k => ?_)))))
      · have : (Str.ofString "").length = 0 := by decide +kernel
        rw [this]; lia
      · rw [← e]
        exact c _ _ _ _ S₈.keep gx
end
end Mine
end
-- part M8
section
set_option maxRecDepth 100000
set_option linter.unusedVariables false
set_option maxHeartbeats 4000000
namespace Mine
open PyProof PySem PySem.Calls PyProof.Rows PySem.W PySem.W.X
section
variable {w : World} {A : Around} {E : Value → Shared → Prop} {h : Heap} {gn : Array GenState} {d : Drawn} {t : Nat} {os : OsState} {g : Heap} {L a : Addr} {i : Nat} {vals : List (Option Value)} {own : List (Addr × Obj)}
  {fa : Nat → Addr} {mg mb : Str → Option Value} {n : Str} {cd : Value} {pos : Pos}

theorem check_spec {R : Result → Shared → Prop} {x : Str} {tx : Tok} (B : Base fa mg mb h) (hA : A.handled = none) (hroom : A.depth + 10 < recursionLimit) (hx : x.length ≤ 1000)
    (c : ∀ h' t' gn', Keep h h' → GX gn gn' → R (.ok (.ret (.bool (checkP x)))) ⟨h', gn', d, t', os⟩) :
    codeAny (model pg w) A (.call (.ref (fa 3)) ⟨[.str x tx], []⟩) R ⟨h, gn, d, t, os⟩ := by
  refine enter B (by decide) ok3 (by lia) (fun _ _ _ => by kernel_rfl) fun L cd h₁ t₁ ht₁ hL₁ S => ?_
  refine wpAny_execs_cons (wpAny_Assign_Name (Call_ (r_fn S B g3__strip_quoted_realnames (by decide) (call_fn B (by decide) (acons (r_loc S v3_addr rfl (anil ⟨S.keep, wpAny_call (strip_spec (B.keeps S.keep) hA (by show A.depth + 1 + 5 < _; lia) hx fun h₂ t₂ gn₂ tk hk₂ gx₂ => ?_)⟩)))))))
  refine r_st (S.keeps hk₂) v3_addr fun h₃ t₃ S₃ _ => ?_
  refine wpAny_execs_cons (wpAny_Assign_Name (c_int fun t₄ => r_st S₃ v3_opens fun h₄ t₅ S₄ _ => ?_))
  refine wpAny_execs_cons (wpAny_For (Call_ (r_fn S₄ B g3__iter_escaped_chars (by decide) (call_fn B (by decide) (acons (r_loc S₄ v3_addr rfl (anil ⟨S₄.keep, wpAny_call (iter_spec B S₄.keep (by show A.depth + 1 < _; lia) fun h₆ t₆ G y hk₆ hG nG W hy => ?_)⟩)))))))
  have S₆ := S₄.keeps hk₆
  refine wpAny_pyIter_gen hG (check_loop (A := A.deeper (envOf (nm 3) (sc 3) L (fa 3) cd)) hA (by show A.depth + 1 < _; lia) B (fun b o e => Heap.lt_size (S₄.keep b o e)) S₄.isNs.lt S₆ hG (Nat.le_of_lt nG) (W _ hA) ?_ ?_)
  · intro h₇ t₇ y' hy' hk₇ hc
    have e : checkP x = false := hc
    have := c h₇ t₇ (gn₂.push y') hk₇ (fun ha => (gx₂ ha).push hy')
    rw [e] at this
    exact this
  · intro h₇ t₇ y' o' to' v2 v3 hy' S₇ hc
    refine wpAny_execs_cons (wpAny_Return_some (wpAny_Compare1 (r_loc S₇ v3_opens rfl (c_int fun t₈ => P.eq_int ?_))))
    have e : checkP x = (o' == 0) := hc
    rw [← e]
    exact c _ _ _ S₇.keep (fun ha => (gx₂ ha).push hy')
end
end Mine
end
-- part M9
section
set_option maxRecDepth 100000
set_option linter.unusedVariables false
set_option maxHeartbeats 4000000
namespace Mine
open PyProof PySem PySem.Calls PyProof.Rows PySem.W PySem.W.X
section
variable {w : World} {A : Around} {E : Value → Shared → Prop} {h : Heap} {gn : Array GenState} {d : Drawn} {t : Nat} {os : OsState} {g : Heap} {L a : Addr} {i : Nat} {vals : List (Option Value)} {own : List (Addr × Obj)}
  {fa : Nat → Addr} {mg mb : Str → Option Value} {n : Str} {cd : Value} {pos : Pos} {sco : Scope} {env : Env}

theorem GX.refl {a : Array GenState} : GX a a := id
theorem GX.trans {a b c : Array GenState} (x : GX a b) (y : GX b c) : GX a c := fun h => y (x h)

/-- a for over anything that walks: the turn over a base that holds all but the frame's own -/
theorem walk_for {x : Str} {kx m : Nat} {px : Pos} {body : List Stmt} {R : Result → Shared → Prop} {I : Addr} {fp wr : List Addr} {P : Nat → Value → Prop} {Sx : Nat → Heap → Prop}
    (W : Walks pg w A I fp wr m P Sx) (q : LocS sco x kx) (J : Nat → List (Option Value) → List (Addr × Obj) → Prop)
    (turn : ∀ k v vals own g₂ h t₁ gn', k < m → P k v → t ≤ t₁ → J k vals own → Keep g g₂ → GX gn gn' → St g₂ L (lcS sco) (vals.set kx (some v)) own h →
      wpAny (model pg w) A (execs body env) (fun f s' => (f = .next ∧ ∃ h' t' gn'' vals' own', s' = ⟨h', gn'', d, t', os⟩ ∧ GX gn gn'' ∧ St g₂ L (lcS sco) vals' own' h' ∧ own'.map (·.1) = own.map (·.1) ∧ J (k + 1) vals' own') ∨ (∃ v, f = .ret v ∧ R (.ok (.ret v)) s'))
        (fun _ _ => False) ⟨h, gn', d, t₁, os⟩)
    (done : ∀ vals own h t₁ gn', J m vals own → t ≤ t₁ → GX gn gn' → St g L (lcS sco) vals own h → R (.ok .next) ⟨h, gn', d, t₁, os⟩)
    (hJ : J 0 vals own) (S : St g L (lcS sco) vals own h) (hI : Sx 0 h) (hL : L ∉ fp) (hown : ∀ p ∈ own, p.1 ∉ fp) (hwg : ∀ b ∈ wr, g.get? b = none) (V : EnvIs env sco L := by exact ⟨rfl, rfl, rfl, rfl⟩) :
    codeAny (model pg w) A (.forLoop (.Name x px) (.ref I) body [] env) R ⟨h, gn, d, t, os⟩ := by
  have hLw : L ∉ wr := fun hm => hL (W.sub L hm)
  obtain ⟨Inv, hInv⟩ : ∃ Inv : Nat → Shared → Prop, Inv = fun r s => ∃ k vals own' h t₁ gn', s = ⟨h, gn', d, t₁, os⟩ ∧ t ≤ t₁ ∧ r = m - k ∧ k ≤ m ∧ J k vals own' ∧ GX gn gn' ∧ St g L (lcS sco) vals own' h ∧ Sx k h ∧ own'.map (·.1) = own.map (·.1) := ⟨_, rfl⟩
  refine codeAny_forLoop_any Inv ?_ m
    (by rw [hInv]; exact ⟨0, vals, own, h, t, gn, rfl, Nat.le_refl _, rfl, Nat.zero_le _, hJ, id, S, hI, rfl⟩)
  clear hJ S hI
  intro r s hInv0
  rw [hInv] at hInv0
  obtain ⟨k, vals, own', h, t₁, gn', rfl, ht, rfl, hk, hJ, gx, S, hI, ho⟩ := hInv0
  have hown' : ∀ p ∈ own', p.1 ∉ fp := fun p hp => by
    have hm : p.1 ∈ own'.map (·.1) := List.mem_map.mpr ⟨p, hp, rfl⟩
    rw [ho] at hm
    obtain ⟨q, hq, e⟩ := List.mem_map.mp hm
    rw [← e]; exact hown q hq
  by_cases hkm : k = m
  · subst hkm
    refine wpAny_with_toks (n := t) ht (W.done _ _ _ hI fun h' tk hk' hle => ?_)
    have S' := S.moved (wr := wr) hk' hLw hwg fun p hp hm => hown' p hp (W.sub _ hm)
    exact wpAny_execs_nil (done vals own' h' tk gn' hJ hle gx S')
  · refine wpAny_with_toks (n := t) ht (W.item k _ _ _ (Nat.lt_of_le_of_ne hk hkm) hI fun v h' tk hP hI' hk' hle => ?_)
    have S' := S.moved (wr := wr) hk' hLw hwg fun p hp hm => hown' p hp (W.sub _ hm)
    show wpAny _ A (pure ()) _ _ _
    refine wpAny_pure (wpAny_assign_Name (wpAny_with_toks (n := t) hle (r_st S'.rebase q (fun h₃ t₃ S₃ e₃ hle₃ => ?_) V)))
    refine wpAny_mono (wpAny_toks_of (n := t) hle₃ (turn k v vals own' _ h₃ t₃ gn' (Nat.lt_of_le_of_ne hk hkm) hP hle₃ hJ S'.below gx S₃)) (fun f s₃ hp => ?_) fun _ _ h => h.2.elim
    obtain ⟨hle₄, hp⟩ := hp
    rcases hp with ⟨rfl, h₄, t₄, gn₄, vals₄, own₄, rfl, gx₄, S₄, ho₄, hJ₄⟩ | ⟨v', rfl, hr⟩
    · refine ⟨m - (k + 1), by lia, ?_⟩
      rw [hInv]
      refine ⟨k + 1, vals₄, own₄, h₄, t₄, gn₄, rfl, hle₄, rfl, by lia, hJ₄, gx₄, S₄.weaken S'.below, W.frame (k + 1) h' h₄ hI' (fun b hb o e => ?_), ho₄.trans ho⟩
      refine S₄.keep b o ?_
      rw [hide_get, if_neg, e]
      intro hm
      rcases List.mem_cons.mp hm with rfl | hm
      · exact hL hb
      · obtain ⟨p, hp, rfl⟩ := List.mem_map.mp hm
        exact hown' p hp hb
    · exact hr
end
end Mine
end
-- part M10
section
set_option maxRecDepth 100000
set_option linter.unusedVariables false
set_option maxHeartbeats 4000000
namespace Mine
open PyProof PySem PySem.Calls PyProof.Rows PySem.W PySem.W.X
section
variable {w : World} {A : Around} {E : Value → Shared → Prop} {h : Heap} {gn : Array GenState} {d : Drawn} {t : Nat} {os : OsState} {g : Heap} {L a : Addr} {i : Nat} {vals : List (Option Value)} {own : List (Addr × Obj)}
  {fa : Nat → Addr} {mg mb : Str → Option Value} {n : Str} {cd : Value} {pos : Pos} {sco : Scope} {env : Env}

theorem St.fresh {ns : List Str} (S : St g L ns vals own h) : g.get? h.objs.size = none := by
  cases hq : g.get? h.objs.size with
  | none => rfl
  | some o' => exact absurd (Heap.lt_size (S.keep _ _ hq)) (Nat.lt_irrefl _)
theorem St.own_lt {ns : List Str} (S : St g L ns vals own h) {p : Addr × Obj} (hp : p ∈ own) : p.1 < h.objs.size := Heap.lt_size (S.isOwn p hp).1

theorem for_range {x : Str} {kx m : Nat} {px : Pos} {body : List Stmt} {R : Result → Shared → Prop} {r : Addr} {a₀ b₀ c₀ : Int} {u₁ u₂ u₃ : Tok} (hA : A.handled = none) (S : St g L (lcS sco) vals own h) (hr : IsRange h r a₀ b₀ c₀ u₁ u₂ u₃)
    (hsm : Builtin.Range.small a₀ b₀ c₀ = true) (hsz : Builtin.Range.rangeSize a₀ b₀ c₀ = (m : Int)) (q : LocS sco x kx) (J : Nat → List (Option Value) → List (Addr × Obj) → Prop)
    (turn : ∀ k tk vals own g₂ h t₁ gn', k < m → t ≤ t₁ → J k vals own → Keep g g₂ → GX gn gn' → St g₂ L (lcS sco) (vals.set kx (some (.int (a₀ + k * c₀) tk))) own h →
      wpAny (model pg w) A (execs body env) (fun f s' => (f = .next ∧ ∃ h' t' gn'' vals' own', s' = ⟨h', gn'', d, t', os⟩ ∧ GX gn gn'' ∧ St g₂ L (lcS sco) vals' own' h' ∧ own'.map (·.1) = own.map (·.1) ∧ J (k + 1) vals' own') ∨ (∃ v, f = .ret v ∧ R (.ok (.ret v)) s'))
        (fun _ _ => False) ⟨h, gn', d, t₁, os⟩)
    (done : ∀ vals own h t₁ gn', J m vals own → t ≤ t₁ → GX gn gn' → St g L (lcS sco) vals own h → R (.ok .next) ⟨h, gn', d, t₁, os⟩)
    (hJ : J 0 vals own) (V : EnvIs env sco L := by exact ⟨rfl, rfl, rfl, rfl⟩) :
    wpAny (model pg w) A (pyIter (.ref r)) (fun it s₂ => codeAny (model pg w) A (.forLoop (.Name x px) it body [] env) R s₂) E ⟨h, gn, d, t, os⟩ := by
  refine wpAny_pyIter_range (s := ⟨h, gn, d, t, os⟩) hr hsm ?_
  have S' := (S.push { cls := .type "range_iterator", data := .fields #[rawInt a₀, rawInt (Builtin.Range.rangeSize a₀ b₀ c₀), rawInt c₀] }).drop (List.sublist_cons_self _ _)
  refine walk_for (V := V) (Walks.range hA h.objs.size a₀ c₀ m) q J ?_ done hJ S' ?_ ?_ ?_ ?_
  · rintro k v vals own g₂ h t₁ gn' hk ⟨tk, rfl⟩ ht hJ hk2 gx S₂
    exact turn k tk vals own g₂ h t₁ gn' hk ht hJ hk2 gx S₂
  · show IsRangeIter _ _ _ _ _
    have e1 : a₀ + ((0 : Nat) : Int) * c₀ = a₀ := by simp
    have e2 : ((m : Int) - ((0 : Nat) : Int)) = m := by simp
    rw [e1, e2, ← hsz]
    exact Heap.get?_push_size _ rfl
  · simpa using Nat.ne_of_lt S.isNs.lt
  · intro p hp
    simpa using Nat.ne_of_lt (S.own_lt hp)
  · intro b hb
    rw [List.mem_singleton.mp hb]; exact S.fresh

end
end Mine
end
-- part M11
section
set_option maxRecDepth 100000
set_option linter.unusedVariables false
set_option maxHeartbeats 4000000
namespace Mine
open PyProof PySem PySem.Calls PyProof.Rows PySem.W PySem.W.X

noncomputable def piece (row opening : Str) (at_ e : Int) : Str := Txt.replace (Txt.slice row (some at_) (some e)) "(" opening
noncomputable def pairsU (row opening : Str) (at_ : Int) : Nat → List Int
  | 0 => []
  | k + 1 => if checkP (piece row opening at_ (at_ + 2 + (k : Int) * 2)) then pairsU row opening at_ k ++ [((at_ + 2 + (k : Int) * 2) - at_).fdiv 2] else pairsU row opening at_ k

section
variable {w : World} {A : Around} {E : Value → Shared → Prop} {h : Heap} {gn : Array GenState} {d : Drawn} {t : Nat} {os : OsState} {g : Heap} {L a : Addr} {i : Nat} {vals : List (Option Value)} {own : List (Addr × Obj)}
  {fa : Nat → Addr} {mg mb : Str → Option Value} {n : Str} {cd : Value} {pos : Pos}
theorem ne_of_gt0 {v t u : Nat} (h0 : 0 < v) (h1 : v < t) (h2 : t ≤ u) : u ≠ 0 := by lia
theorem ne_of_gt1 {v t u : Nat} (h1 : v < t) (h2 : t ≤ u) : u ≠ v := by lia
theorem rep_fits {x z : Nat} (hx : x ≤ 100) (hz : z ≤ 100) : x + (x + 1) * z ≤ 16777216 := by
  have : (x + 1) * z ≤ 101 * 100 := Nat.mul_le_mul (by lia) hz
  lia
theorem ok20 : DefOk 20 := by decide +kernel
theorem St.adopt {h' : Heap} {ns : List Str} {P : Addr} {o : Obj} (S : St g L ns vals own h) (hk : Keep h h') (hP : h'.get? P = some o) (hf : h.objs.size ≤ P) : St g L ns vals ((P, o) :: own) h' where
  isNs := S.isNs.keeps hk
  len := S.len
  keep := fun b o e => hk b o (S.keep b o e)
  gL := S.gL
  isOwn := fun p hp => by
    rcases List.mem_cons.mp hp with rfl | hp
    · refine ⟨hP, Nat.ne_of_gt (Nat.lt_of_lt_of_le S.isNs.lt hf), ?_⟩
      cases hq : g.get? P with
      | none => rfl
      | some o' => exact absurd (Heap.lt_size (S.keep _ _ hq)) (Nat.not_lt.mpr hf)
    · exact ⟨hk _ _ (S.isOwn p hp).1, (S.isOwn p hp).2⟩
  nd := by
    rw [List.map_cons, List.nodup_cons]
    refine ⟨fun hm => ?_, S.nd⟩
    obtain ⟨q, hq, e⟩ := List.mem_map.mp hm
    exact absurd (S.own_lt hq) (by rw [e]; exact Nat.not_lt.mpr hf)

theorem pairs_spec {R : Result → Shared → Prop} {row opening : Str} {at_ : Int} {tr ta : Tok} {to m : Nat} (B : Base fa mg mb h) (hA : A.handled = none) (hroom : A.depth + 20 < recursionLimit) (hr : row.length ≤ 100) (hop : opening.length ≤ 100)
    (hat : 0 ≤ at_ ∧ at_ ≤ 100) (hsz : Builtin.Range.rangeSize (at_ + 2) ((row.length : Int) + 1) 2 = (m : Int)) (hsm : Builtin.Range.small (at_ + 2) ((row.length : Int) + 1) 2 = true) (hm : m ≤ 1000)
    (hz : ∀ k : Nat, k < m → (piece row opening at_ (at_ + 2 + (k : Int) * 2)).length ≤ 1000) (hto : 0 < to ∧ to < t)
    (c : ∀ h' t' gn' P items nn, Keep h h' → GX gn gn' → h.objs.size ≤ P → h'.get? P = some (lst items nn) → IntsAre items.toList (pairsU row opening at_ m) → R (.ok (.ret (.ref P))) ⟨h', gn', d, t', os⟩) :
    codeAny (model pg w) A (.call (.ref (fa 20)) ⟨[.str row tr, .int at_ ta, .str opening to], []⟩) R ⟨h, gn, d, t, os⟩ := by
  refine enter B (by decide) ok20 (by lia) (fun _ _ _ => by kernel_rfl) fun L cd h₁ t₁ ht₁ hL₁ S => ?_
  refine wpAny_execs_cons (wpAny_with_toks (n := t) ht₁ ?_)
  refine wpAny_Assign_Name (List_ (anil ?_))
  refine new_list (by decide) ?_
  refine r_st (S.push (lst #[] 0)) v20_pairs fun h₂ t₂ S₂ _ ht₂ => ?_
  have hD : h.objs.size ≤ h₁.objs.size := Nat.le_trans hL₁ (Nat.le_of_lt S.isNs.lt)
  generalize h₁.objs.size = D at S₂ hD
  refine wpAny_execs_cons (wpAny_For ?_)
  refine wpAny_with_toks (n := t) ht₂ ?_
  refine Call_ (r_bt S₂ B g20_range b_range ?_)
  refine cw_type (acons ?_)
  refine wpAny_BinOp (r_loc S₂ v20_at rfl (c_int fun t₃ => o_add fun u₁ t₄ => ?_))
  refine acons ?_
  refine wpAny_BinOp ?_
  refine Call_ (r_bt S₂ B g20_len b_len ?_)
  refine cw_bt (acons (r_loc S₂ v20_row rfl (anil ?_)))
  refine o_len_str (by lia) fun u₂ t₅ => ?_
  refine c_int fun t₆ => o_add fun u₃ t₇ => ?_
  refine acons (c_int fun t₈ => anil ?_)
  refine o_range3 (by decide) (by decide) fun h₃ r t₉ hk₃ hz₃ hr₃ hR ht₉ => ?_
  have S₃ := S₂.keeps hk₃
  refine for_range (A := A.deeper (envOf (nm 20) (sc 20) L (fa 20) cd)) hA S₃ hR hsm hsz v20_end (fun k vals own => ∃ items nn v4, own = [(D, lst items nn)] ∧ vals = [some (.str row tr), some (.int at_ ta), some (.str opening to), some (.ref D), v4] ∧ IntsAre items.toList (pairsU row opening at_ k) ∧ items.size ≤ k)
    ?_ ?_ ⟨#[], 0, none, rfl, rfl, .nil, Nat.le_refl _⟩
  · intro k tk vals own g₂ h₄ t₁₀ gn₁ hk hle hpat10 hg₂ gx S₄
    refine abs_q fun Q1 hQ1 => ?_
    obtain ⟨items, nn, v4, rfl, rfl, hI, hs⟩ := hpat10
    have B₂ := B.keeps hg₂
    have hsl := Txt.length_slice_le row (some at_) (some (at_ + 2 + (k : Int) * 2))
    refine wpAny_execs_cons (wpAny_If (isTrue_plain ?_))
    refine Call_ (r_fn S₄ B₂ g20__check_parenthesis (by decide) ?_)
    refine call_fn B₂ (by decide) (acons ?_)
    refine MethodCall_ ?_
    refine wpAny_with_toks (n := t) (Nat.le_trans ht₉ hle) ?_
    refine wpAny_Subscript_str_slice (r_loc S₄ v20_row rfl (r_loc S₄ v20_at rfl (r_loc S₄ v20_end rfl ?_)))
    refine ⟨row, tr, some (at_, ta), some (at_ + 2 + (k : Int) * 2, tk), rfl, rfl, rfl, made_slice (le_line (by lia)) fun tk₁ t₁₁ hle₂ => ?_⟩
    have S₅ := (S₄.push { cls := .type "slice", data := .fields #[.int at_ ta, .int (at_ + 2 + (k : Int) * 2) tk, .none] }).drop (List.sublist_cons_self _ _)
    refine GM.replace ?_
    refine cw_meth (acons (c_str fun t₁₂ => acons (r_loc S₅ v20_opening rfl (anil ?_))))
    refine o_replace (B₂.keeps S₅.keep).nb (ne_of_gt0 hto.1 hto.2 hle₂) (Nat.ne_of_gt hto.1) (ne_of_gt1 hto.2 hle₂) ?_ fun tk₂ t₁₃ => ?_
    · have : (Txt.slice row (some at_) (some (at_ + 2 + (k : Int) * 2))).length ≤ 100 := Nat.le_trans hsl hr
      exact rep_fits this hop
    refine anil ⟨S₅.keep, wpAny_call (check_spec (B₂.keeps S₅.keep) hA (by show A.depth + 1 + 10 < _; lia) (hz k hk) fun h₆ t₁₄ gn₂ hk₆ gx₂ => ?_)⟩
    refine wpAny_truthy_bool ?_
    have S₆ := S₅.keeps hk₆
    have e : pairsU row opening at_ (k + 1) = if checkP (piece row opening at_ (at_ + 2 + (k : Int) * 2)) then pairsU row opening at_ k ++ [((at_ + 2 + (k : Int) * 2) - at_).fdiv 2] else pairsU row opening at_ k := rfl
    cases hc : checkP (piece row opening at_ (at_ + 2 + (k : Int) * 2)) with
    | false =>
      have hc' : checkP (Txt.replace (Txt.slice row (some at_) (some (at_ + 2 + (k : Int) * 2))) (Str.ofString "(") opening) = false := hc
      rw [hc, if_neg Bool.false_ne_true] at e
      show (if checkP (Txt.replace (Txt.slice row (some at_) (some (at_ + 2 + (k : Int) * 2))) (Str.ofString "(") opening) = true then _ else _)
      rw [hc', if_neg Bool.false_ne_true]
      repeat refine wpAny_execs_nil ?_
      exact hQ1 _ _ (.inl ⟨rfl, _, _, _, _, _, rfl, gx.trans gx₂, S₆, rfl, items, nn, _, rfl, rfl, by rw [e]; exact hI, by lia⟩)
    | true =>
      have hc' : checkP (Txt.replace (Txt.slice row (some at_) (some (at_ + 2 + (k : Int) * 2))) (Str.ofString "(") opening) = true := hc
      rw [hc, if_pos rfl] at e
      show (if checkP (Txt.replace (Txt.slice row (some at_) (some (at_ + 2 + (k : Int) * 2))) (Str.ofString "(") opening) = true then _ else _)
      rw [hc', if_pos rfl]
      refine wpAny_execs_cons (wpAny_Expr (MethodCall_ (r_loc S₆ v20_pairs rfl (gm_append (pre := []) S₆ (cw_meth (acons ?_))))))
      refine wpAny_BinOp (wpAny_BinOp (r_loc S₆ v20_end rfl (r_loc S₆ v20_at rfl (o_sub fun u₄ t₁₅ => ?_))))
      refine c_int fun t₁₆ => o_fdiv (by decide) (PyProof.noPylong_small (by decide)) fun u₅ t₁₇ => anil ?_
      refine do_append (pre := []) S₆ (le_line (by lia)) fun h₇ S₇ => ?_
      repeat refine wpAny_execs_nil ?_
      refine hQ1 _ _ (.inl ⟨rfl, _, _, _, _, _, rfl, gx.trans gx₂, S₇, rfl, _, _, _, rfl, rfl, ?_, by simp; lia⟩)
      rw [e, Array.toList_push]
      exact hI.append (.cons _ _ .nil)
  · rintro vals own h₄ t₁₀ gn₁ ⟨items, nn, v4, rfl, rfl, hI, hs⟩ hle gx S₄
    refine wpAny_execs_cons (wpAny_Return_some (r_loc S₄ v20_pairs rfl ?_))
    refine c _ _ _ D items nn S₄.keep gx ?_ (S₄.isOwn _ (.head _)).1 hI
    exact hD
end
end Mine
end
-- part M12
section
set_option maxRecDepth 100000
set_option linter.unusedVariables false
set_option maxHeartbeats 4000000
namespace Mine
open PyProof PySem PySem.Calls PyProof.Rows PySem.W PySem.W.X

section
variable {w : World} {A : Around} {E : Value → Shared → Prop} {R : Result → Shared → Prop} {s : Shared}
noncomputable abbrev testsT (env : Env) (ifs : List PySem.Expr) : Sem Bool := forIn ifs true fun c r => if r = true then do let ok ← isTrue c env (eval c env); pure (ForInStep.yield ok) else pure (ForInStep.yield r)
theorem no_raise {α : Type} {m : Sem α} {k : Value → Sem Unit} {Q : α → Shared → Prop} (h : wpAny (model pg w) A m Q (fun _ _ => False) s) : wpAny (model pg w) A (m.onRaise k) Q E s :=
  wpAny_onRaise (wpAny_mono h (fun _ _ x => x) fun _ _ h => h.elim)

/-- a step, then the rest -/
theorem thenX {α β : Type} {m : Sem α} {f : α → Sem β} {P : α → Shared → Prop} {Q : β → Shared → Prop} {E : Value → Shared → Prop} (h : wpAny (model pg w) A m P E s) (k : ∀ a s', P a s' → wpAny (model pg w) A (f a) Q E s') : wpAny (model pg w) A (m >>= f) Q E s :=
  wpAny_bind (wpAny_mono h k fun _ _ x => x)
/-- a step that does nothing -/
theorem idle {α : Type} {m : Sem Unit} {f : Unit → Sem α} {Q : α → Shared → Prop} {E : Value → Shared → Prop} (e : m = pure ()) (h : wpAny (model pg w) A (f ()) Q E s) : wpAny (model pg w) A (m >>= f) Q E s := by
  subst e
  exact wpAny_bind (wpAny_pure h)

theorem compStart1 {elt t1 i1 t2 i2 : PySem.Expr} {f1 f2 : List PySem.Expr} {scope : Scope} {pos : Pos} {it acc : Value} {env : Env}
    (h0 : codeAny (model pg w) A (.compLoop (.ListComp elt [⟨t1, i1, f1, 0⟩, ⟨t2, i2, f2, 0⟩] scope pos) 1 it acc env) R s)
    (h : wpAny (model pg w) A (pyIter it) (fun it' s' => codeAny (model pg w) A (.compLoop (.ListComp elt [⟨t1, i1, f1, 0⟩, ⟨t2, i2, f2, 0⟩] scope pos) 1 it' acc env) R s') (fun _ _ => False) s) :
    codeAny (model pg w) A (.compStart (.ListComp elt [⟨t1, i1, f1, 0⟩, ⟨t2, i2, f2, 0⟩] scope pos) 1 it acc env) R s := by
  refine codeAny_of_tree (no_raise (m := compStart _ 1 it acc env) (wpAny_bind (m := ask) (wpAny_askSetting ?_)))
  -- the setting says whether the inner iterable is already an iterator
  dsimp only
  split
  · exact wpAny_pure (And.intro rfl h0)
  · exact thenX (m := rule _) (P := fun _ s' => s' = s) (wpAny_rule rfl) fun _ _ e => by
      subst e
      exact wpAny_bind (m := standAt i2.pos) (wpAny_standAt (thenX h fun _ _ p => wpAny_pure (And.intro rfl p)))

theorem loop_0 {elt t1 i1 t2 i2 : PySem.Expr} {f2 : List PySem.Expr} {scope : Scope} {pos : Pos} {it acc : Value} {env : Env} (I : Nat → Shared → Prop)
    (turn : ∀ n s, I n s → wpAny (model pg w) A (pyNext it) (fun r s₁ => match r with
      | none => R (.ok .next) s₁
      | some v => wpAny (model pg w) A (assign t1 env v) (fun _ s₂ => wpAny (model pg w) A (eval i2 env) (fun x s₃ => wpAny (model pg w) A (pyIter x) (fun it2 s₄ =>
          codeAny (model pg w) A (.compStart (.ListComp elt [⟨t1, i1, [], 0⟩, ⟨t2, i2, f2, 0⟩] scope pos) 1 it2 acc env) (fun r s' => match r with | .ok _ => ∃ m, m < n ∧ I m s' | .error _ => False) s₄) (fun _ _ => False) s₃) (fun _ _ => False) s₂) (fun _ _ => False) s₁) (fun _ _ => False) s)
    (n : Nat) (h : I n s) (ht : ∀ v, letOwnedTupleGo t1 it v = pure () := by intro _; rfl) (hf : ∀ x, foldedSetIterable i2 env x = pure x := by intro _; rfl) :
    codeAny (model pg w) A (.compLoop (.ListComp elt [⟨t1, i1, [], 0⟩, ⟨t2, i2, f2, 0⟩] scope pos) 0 it acc env) R s := by
  refine codeAny_loop rfl I (fun n s hI => no_raise (m := compTurn _ 0 it acc env) (wpAny_bind (m := standAt i1.pos) (wpAny_standAt (thenX (turn n s hI) fun r s₁ p => ?_)))) n h
  match r, p with
  | none, p => exact wpAny_pure p
  | some v, p =>
    refine idle (ht v) (thenX (m := assign t1 env v) p fun _ s₂ p => thenX (m := eval i2 env) p fun x s₃ p => wpAny_bind (m := standAt i2.pos) (wpAny_standAt ?_))
    refine wpAny_bind (m := foldedSetIterable i2 env x) (hf x ▸ wpAny_pure (thenX (wpAny_holding p) fun it2 s₄ p => wpAny_bind (wpAny_runOwn (codeAny_mono p fun r s₅ p => ?_))))
    match r, p with
    | .ok _, p => exact wpAny_pure ⟨rfl, p⟩
    | .error _, p => exact p.elim

theorem loop_1 {elt t1 i1 t2 i2 : PySem.Expr} {f1 f2 : List PySem.Expr} {scope : Scope} {pos : Pos} {it acc : Value} {env : Env} (I : Nat → Shared → Prop)
    (turn : ∀ n s, I n s → wpAny (model pg w) A (pyNext it) (fun r s₁ => match r with
      | none => R (.ok .next) s₁
      | some v => wpAny (model pg w) A (assign t2 env v) (fun _ s₂ => wpAny (model pg w) A (testsT env f2) (fun ok s₃ =>
            if ok = true then wpAny (model pg w) A (eval elt env) (fun x s₄ => wpAny (model pg w) A (call (.builtin "list.append") [acc, x]) (fun _ s₅ => ∃ m, m < n ∧ I m s₅) (fun _ _ => False) s₄) (fun _ _ => False) s₃
            else ∃ m, m < n ∧ I m s₃) (fun _ _ => False) s₂) (fun _ _ => False) s₁) (fun _ _ => False) s)
    (n : Nat) (h : I n s) (ht : ∀ v, letOwnedTupleGo t2 it v = pure () := by intro _; rfl) :
    codeAny (model pg w) A (.compLoop (.ListComp elt [⟨t1, i1, f1, 0⟩, ⟨t2, i2, f2, 0⟩] scope pos) 1 it acc env) R s := by
  refine codeAny_loop rfl I (fun n s hI => no_raise (m := compTurn _ 1 it acc env) (wpAny_bind (m := standAt i2.pos) (wpAny_standAt (thenX (turn n s hI) fun r s₁ p => ?_)))) n h
  match r, p with
  | none, p => exact wpAny_pure p
  | some v, p =>
    refine idle (ht v) (thenX (m := assign t2 env v) p fun _ s₂ p => thenX (m := testsT env f2) p fun ok s₃ p => ?_)
    match ok, p with
    | false, p => exact wpAny_pure ⟨rfl, p⟩
    | true, p => exact thenX (m := do let x ← eval elt env; let _ ← call (.builtin "list.append") [acc, x]; pure ()) (thenX p fun x s₄ p => thenX p fun _ s₅ p => wpAny_pure p) fun _ s₅ p => wpAny_pure ⟨rfl, p⟩
end
end Mine
end
-- part M13
section
set_option maxRecDepth 100000
set_option linter.unusedVariables false
set_option maxHeartbeats 4000000
namespace Mine
open PyProof PySem PySem.Calls PyProof.Rows PySem.W PySem.W.X
section
variable {w : World} {A : Around} {E : Value → Shared → Prop} {h : Heap} {gn : Array GenState} {d : Drawn} {t : Nat} {os : OsState} {g : Heap} {L a : Addr} {i : Nat} {vals : List (Option Value)} {own : List (Addr × Obj)}
  {fa : Nat → Addr} {mg mb : Str → Option Value} {n : Str} {cd : Value} {pos : Pos} {sco : Scope} {env : Env}
theorem St.addCell {ns : List Str} {c : Addr} {v : Option Value} (S : St g L ns vals own h) (hc : h.IsCell c v) (hcL : c ≠ L) (hg : g.get? c = none) (hn : c ∉ own.map (·.1)) :
    ∃ o, o.data = .cell v ∧ St g L ns vals ((c, o) :: own) h := by
  obtain ⟨o, ho, hd⟩ := hc
  refine ⟨o, hd, S.isNs, S.len, S.keep, S.gL, fun p hp => ?_, ?_⟩
  · rcases List.mem_cons.mp hp with rfl | hp
    · exact ⟨ho, hcL, hg⟩
    · exact S.isOwn p hp
  · rw [List.map_cons, List.nodup_cons]; exact ⟨hn, S.nd⟩
theorem r_ldC {x : Str} {c : Addr} {o : Obj} {v : Value} {ns : List Str} {Q : Value → Shared → Prop} (S : St g L ns vals own h) (hm : (c, o) ∈ own) (ho : o.data = .cell (some v)) (hc : env.cells.lookup x = some c)
    (hl : env.kindOf x = some .cell) (hk : env.scope.kind = .function) (hd : (x == ("__debug__" : Str)) = false) (kk : Q v ⟨h, gn, d, t, os⟩) : wpAny (model pg w) A (eval (.Name x pos) env) Q E ⟨h, gn, d, t, os⟩ :=
  wpAny_Name (wpAny_loadName_cell hk hl hc ⟨o, (S.isOwn (c, o) hm).1, ho⟩ kk) hd
theorem r_stC {x : Str} {c : Addr} {o : Obj} {v₀ : Option Value} {v : Value} {ns : List Str} {pre post : List (Addr × Obj)} {Q : Unit → Shared → Prop} (S : St g L ns vals (pre ++ (c, o) :: post) h) (ho : o.data = .cell v₀) (hc : env.cells.lookup x = some c)
    (hl : env.kindOf x = some .cell) (hk : env.scope.kind = .function) (k : ∀ h' o', o'.data = .cell (some v) → St g L ns vals (pre ++ (c, o') :: post) h' → Q () ⟨h', gn, d, t, os⟩) : wpAny (model pg w) A (storeName env x v) Q E ⟨h, gn, d, t, os⟩ := by
  refine wpAny_storeName_cell hk hl hc ⟨o, (S.isOwn (c, o) (by simp)).1, ho⟩ fun h' hv hs => ?_
  obtain ⟨o', ho', hd'⟩ := hv
  exact k h' o' hd' (S.upd hs ho')
/-- entering a def with cells -/
theorem enterC {R : Result → Shared → Prop} {args : List Value} (vals : List (Option Value)) (B : Base fa mg mb h) (hi : i ∈ fnIds) (hroom : A.depth < recursionLimit)
    (q : (sc i).isCoroutine = false ∧ (sc i).isGenerator = false ∧ (sc i).kind = .function)
    (hbind : ∀ pm cd doc, bindArgs (docDef (nm i) (pr i) (bd i) (sc i) pm cd doc) ⟨args, []⟩ = pure (((pr i).args.map (·.arg)).zip args))
    (hkind : ∀ L, ∀ x ∈ (pr i).args, (sc i).names.lookup x.arg = some .local ∨ ((sc i).names.lookup x.arg = some .cell ∧ ((cellsFrom (L + 1) (sc i).names []).lookup x.arg).isSome = true))
    (hm : ∀ L cd, bindL (envOfC (nm i) (sc i) L (fa i) cd).kindOf (((pr i).args.map (·.arg)).zip args) (fun _ => none) = slot (lc i) vals) (hlen : vals.length = (lc i).length)
    (c : ∀ L cd h' t', h.objs.size ≤ L → St h L (lc i) vals [] h' → Cl L (cellsFrom (L + 1) (sc i).names []) h' (bindC (envOfC (nm i) (sc i) L (fa i) cd).kindOf (((pr i).args.map (·.arg)).zip args) fun _ => none) →
      wpAny (model pg w) (A.deeper (envOfC (nm i) (sc i) L (fa i) cd)) (execs (bd i) (envOfC (nm i) (sc i) L (fa i) cd))
        (fun f s' => R (.ok (.ret (match f with | .ret v => v | _ => .none))) s') (fun _ _ => False) ⟨h', gn, d, t', os⟩) :
    codeAny (model pg w) A (.call (.ref (fa i)) ⟨args, []⟩) R ⟨h, gn, d, t, os⟩ := by
  obtain ⟨o, pm, cd, doc, ho, hd, hcr⟩ := (B.fn i hi).obj
  refine call_cells_ret (s := ⟨h, gn, d, t, os⟩) hroom ho hd B.nolimit hcr (hbind _ _ _) ?_ (fun h₁ tk F X => ?_) q.1 q.2.1 q.2.2
  · intro x hx
    obtain ⟨p, hp, e⟩ := List.mem_map.mp (zip_mem hx)
    rw [← e]; exact hkind _ p hp
  · refine c h.objs.size cd h₁ tk (Nat.le_refl _) ⟨?_, hlen, F.keep, ?_, (fun _ hp => by cases hp), by simp⟩ X
    · rw [← hm h.objs.size cd]; exact F.ns
    · cases hq : h.get? h.objs.size with
      | none => rfl
      | some o' => exact absurd (Heap.lt_size hq) (Nat.lt_irrefl _)
theorem none_above {b : Addr} (hb : h.objs.size ≤ b) : h.get? b = none := Heap.get?_none_of_le hb
end
end Mine
end
-- part M14
section
set_option maxRecDepth 100000
set_option linter.unusedVariables false
set_option maxHeartbeats 4000000
namespace Mine
open PyProof PySem PySem.Calls PyProof.Rows PySem.W PySem.W.X
section
variable {w : World} {A : Around} {E : Value → Shared → Prop} {h : Heap} {gn : Array GenState} {d : Drawn} {t : Nat} {os : OsState} {g : Heap} {L a : Addr} {i : Nat} {vals : List (Option Value)} {own : List (Addr × Obj)}
  {fa : Nat → Addr} {mg mb : Str → Option Value} {n : Str} {cd : Value} {pos : Pos} {sco : Scope} {env : Env}

theorem St.adopts {g h h' : Heap} {L C : Addr} {ns ns' : List Str} {vals vs : List (Option Value)} {own ex : List (Addr × Obj)} (S : St g L ns vals own h) (T : St h C ns' vs ex h') : St g L ns vals (ex ++ own) h' where
  isNs := S.isNs.keeps T.keep
  len := S.len
  keep := fun b o e => T.keep b o (S.keep b o e)
  gL := S.gL
  isOwn := fun p hp => by
    rcases List.mem_append.mp hp with hp | hp
    · obtain ⟨h1, h2, h3⟩ := T.isOwn p hp
      refine ⟨h1, fun e => ?_, ?_⟩
      · obtain ⟨o, _, _, ho, _⟩ := S.isNs
        rw [e, ho] at h3; cases h3
      · cases hq : g.get? p.1 with
        | none => rfl
        | some o => rw [S.keep _ _ hq] at h3; cases h3
    · exact ⟨T.keep _ _ (S.isOwn p hp).1, (S.isOwn p hp).2⟩
  nd := by
    rw [List.map_append, List.nodup_append]
    refine ⟨T.nd, S.nd, fun a ha b hb e => ?_⟩
    obtain ⟨p, hp, rfl⟩ := List.mem_map.mp ha
    obtain ⟨q, hq, rfl⟩ := List.mem_map.mp hb
    have h3 := (T.isOwn p hp).2.2
    rw [e, (S.isOwn q hq).1] at h3; cases h3
theorem inner_walk {elt t1 i1 i2 : PySem.Expr} {f1 f2 : List PySem.Expr} {scope cs : Scope} {x : Str} {px : Pos} {kx m : Nat} {R : Result → Shared → Prop} {I D C : Addr} {fp wr : List Addr} {P : Nat → Value → Prop} {Sx : Nat → Heap → Prop} {cenv : Env} {o₀ : Option Value} {acc : Array Value} {nn : Nat} {ex : List (Addr × Obj)}
    (W : Walks pg w A I fp wr m P Sx) (q : LocS cs x kx) (J : Nat → Array Value → List (Addr × Obj) → Prop)
    (turn : ∀ k v acc nn ex g₂ h t₁, k < m → P k v → J k acc ex → Keep g g₂ → St g₂ C (lcS cs) (vals.set kx (some v)) ((D, lst acc nn) :: ex) h →
      wpAny (model pg w) A (testsT cenv f2) (fun ok s₃ => if ok = true then wpAny (model pg w) A (eval elt cenv) (fun y s₄ => ∃ h' t' ex', s₄ = ⟨h', gn, d, t', os⟩ ∧ St g₂ C (lcS cs) (vals.set kx (some v)) ((D, lst acc nn) :: ex') h' ∧ acc.size ≤ sizeLine ∧ J (k + 1) (acc.push y) ex') (fun _ _ => False) s₃
        else ∃ h' t', s₃ = ⟨h', gn, d, t', os⟩ ∧ St g₂ C (lcS cs) (vals.set kx (some v)) ((D, lst acc nn) :: ex) h' ∧ J (k + 1) acc ex) (fun _ _ => False) ⟨h, gn, d, t₁, os⟩)
    (done : ∀ o acc nn ex h t₁, J m acc ex → St g C (lcS cs) (vals.set kx o) ((D, lst acc nn) :: ex) h → R (.ok .next) ⟨h, gn, d, t₁, os⟩)
    (hJ : J 0 acc ex) (S : St g C (lcS cs) (vals.set kx o₀) ((D, lst acc nn) :: ex) h) (hI : Sx 0 h) (hC : C ∉ fp) (hD : D ∉ fp) (hex : ∀ p ∈ ex, p.1 ∉ fp) (hfl : ∀ k h, Sx k h → ∀ b ∈ fp, h.get? b ≠ none) (hwg : ∀ b ∈ wr, g.get? b = none) (V : EnvIs cenv cs C) :
    codeAny (model pg w) A (.compLoop (.ListComp elt [⟨t1, i1, f1, 0⟩, ⟨.Name x px, i2, f2, 0⟩] scope pos) 1 (.ref I) (.ref D) cenv) R ⟨h, gn, d, t, os⟩ := by
  have hLw : C ∉ wr := fun hm => hC (W.sub C hm)
  obtain ⟨Inv, hInv⟩ : ∃ Inv : Nat → Shared → Prop, Inv = fun r s => ∃ k o acc nn ex h t₁, s = ⟨h, gn, d, t₁, os⟩ ∧ r = m - k ∧ k ≤ m ∧ J k acc ex ∧ (∀ p ∈ ex, p.1 ∉ fp) ∧ St g C (lcS cs) (vals.set kx o) ((D, lst acc nn) :: ex) h ∧ Sx k h := ⟨_, rfl⟩
  refine loop_1 Inv ?_ m
    (by rw [hInv]; exact ⟨0, o₀, acc, nn, ex, h, t, rfl, rfl, Nat.zero_le _, hJ, hex, S, hI⟩)
  clear hJ S hI hex
  intro r s hInv0
  rw [hInv] at hInv0
  obtain ⟨k, o, acc, nn, ex, h, t₁, rfl, rfl, hk, hJ, hex, S, hI⟩ := hInv0
  have hof : ∀ p ∈ ((D, lst acc nn) :: ex), p.1 ∉ fp := fun p hp => by
    rcases List.mem_cons.mp hp with rfl | hp
    · exact hD
    · exact hex p hp
  by_cases hkm : k = m
  · subst hkm
    refine W.done _ _ _ hI fun h' tk hk' => ?_
    have S' := S.moved (wr := wr) hk' hLw hwg fun p hp hm => hof p hp (W.sub _ hm)
    exact done o acc nn ex h' tk hJ S'
  · refine W.item k _ _ _ (Nat.lt_of_le_of_ne hk hkm) hI fun v h' tk hP hI' hk' => ?_
    have S' := S.moved (wr := wr) hk' hLw hwg fun p hp hm => hof p hp (W.sub _ hm)
    refine wpAny_assign_Name (r_st S'.rebase q (fun h₃ t₃ S₃ e₃ => ?_) V)
    rw [List.set_set] at S₃
    refine wpAny_mono (turn k v acc nn ex _ h₃ t₃ (Nat.lt_of_le_of_ne hk hkm) hP hJ S'.below S₃) (fun ok s₃ hp => ?_) fun _ _ h => h
    have hin : ∀ b ∈ fp, b ∉ C :: ((D, lst acc nn) :: ex).map (·.1) := fun b hb hm => by
      rcases List.mem_cons.mp hm with rfl | hm
      · exact hC hb
      · obtain ⟨q, hq, e⟩ := List.mem_map.mp hm
        exact hof q hq (e ▸ hb)
    have back : ∀ h₄ own', St (hide h' (C :: ((D, lst acc nn) :: ex).map (·.1))) C (lcS cs) (vals.set kx (some v)) own' h₄ → Sx (k + 1) h₄ := fun h₄ own' S₄ => by
      refine W.frame (k + 1) h' h₄ hI' (fun b hb o e => ?_)
      refine S₄.keep b o ?_
      rw [hide_get, if_neg (hin b hb), e]
    have back2 : ∀ h₄ own', St (hide h' (C :: ((D, lst acc nn) :: ex).map (·.1))) C (lcS cs) (vals.set kx (some v)) own' h₄ → ∀ p ∈ own', p.1 ∉ fp := fun h₄ own' S₄ p hp hb => by
      refine hfl _ _ hI' p.1 hb ?_
      have := (S₄.isOwn p hp).2.2
      rw [hide_get, if_neg (hin _ hb)] at this
      exact this
    cases ok with
    | false =>
      obtain ⟨h₄, t₄, rfl, S₄, hJ₄⟩ := hp
      refine ⟨m - (k + 1), by lia, ?_⟩
      rw [hInv]
      exact ⟨k + 1, some v, acc, nn, ex, h₄, t₄, rfl, rfl, by lia, hJ₄, hex, S₄.weaken S'.below, back _ _ S₄⟩
    | true =>
      refine wpAny_mono hp (fun y s₄ hp => ?_) fun _ _ h => h
      obtain ⟨h₄, t₄, ex', rfl, S₄, hz, hJ₄⟩ := hp
      refine do_append (pre := []) S₄ hz fun h₅ S₅ => ?_
      refine ⟨m - (k + 1), by lia, ?_⟩
      rw [hInv]
      exact ⟨k + 1, some v, _, _, ex', h₅, t₄, rfl, rfl, by lia, hJ₄, fun p hp => back2 _ _ S₅ p (.tail _ hp), S₅.weaken S'.below, back _ _ S₅⟩

theorem comp2 {elt i1 i2 : PySem.Expr} {f2 : List PySem.Expr} {scope : Scope} {x1 x2 y : Str} {p1 p2 py spos : Pos} {ky : Nat} {cl : List (Str × Addr)} {ax : Addr} {items : Array Value} {Q : Flow → Shared → Prop}
    (S : St g L (lcS sco) vals own h) (hA : A.handled = none)
    (hsw : swapsWith (.ListComp elt [⟨.Name x1 p1, i1, [], 0⟩, ⟨.Name x2 p2, i2, f2, 0⟩] scope pos) (some (.Name y py)) spos.line env = pure true) (hclos : closureFor scope env = pure cl) (hcell : ∀ z ∈ scope.names, z.2 ≠ .cell) (hkind : scope.kind = .function)
    (hnames : ∀ z ∈ scope.names, z.2 = .local → scope.names.lookup z.1 = some .local) (q1 : LocS (relabel scope env) x1 1) (hlen : (lcS (relabel scope env)).length = 3) (qy : LocS sco y ky)
    (h1 : ∀ Q E, Q (.ref ax) ⟨h, gn, d, t, os⟩ → wpAny (model pg w) A (eval i1 env) Q E ⟨h, gn, d, t, os⟩) (hl : h.IsList ax items) (J : Nat → Array Value → List (Addr × Obj) → Prop) (hJ : J 0 #[] [])
    (turn : ∀ k v oz o C D acc nn ex g₂ h₂ t₂, items[k]? = some v → J k acc ex → Keep h g₂ → C ≠ D → St g₂ C (lcS (relabel scope env)) [oz, some v, o] ((D, lst acc nn) :: ex) h₂ →
      wpAny (model pg w) A (eval i2 (compEnvC scope cl C env)) (fun x s₃ => wpAny (model pg w) A (pyIter x) (fun it2 s₄ =>
        codeAny (model pg w) A (.compStart (.ListComp elt [⟨.Name x1 p1, i1, [], 0⟩, ⟨.Name x2 p2, i2, f2, 0⟩] scope pos) 1 it2 (.ref D) (compEnvC scope cl C env)) (fun r s' => match r with
          | .ok _ => ∃ h' t' acc' nn' ex' vs', s' = ⟨h', gn, d, t', os⟩ ∧ St g₂ C (lcS (relabel scope env)) vs' ((D, lst acc' nn') :: ex') h' ∧ J (k + 1) acc' ex'
          | .error _ => False) s₄) (fun _ _ => False) s₃) (fun _ _ => False) ⟨h₂, gn, d, t₂, os⟩)
    (done : ∀ D acc nn ex h' t', J items.size acc ex → h.objs.size ≤ D → St g L (lcS sco) (vals.set ky (some (.ref D))) (((D, lst acc nn) :: ex) ++ own) h' → Q .next ⟨h', gn, d, t', os⟩)
    (V : EnvIs env sco L := by exact ⟨rfl, rfl, rfl, rfl⟩) (hs : ∀ x, foldedSetIterable i1 env x = pure x := by intro _; rfl) (hs2 : ∀ C x, foldedSetIterable i2 (compEnvC scope cl C env) x = pure x := by intro _ _; rfl) :
    wpAny (model pg w) A (exec (.Assign [.Name y py] (.ListComp elt [⟨.Name x1 p1, i1, [], 0⟩, ⟨.Name x2 p2, i2, f2, 0⟩] scope pos) spos) env) Q E ⟨h, gn, d, t, os⟩ := by
  rw [exec_Assign_Name_used _ _ _ _ hsw]
  refine wpAny_bind (wpAny_standAt (wpAny_bind ?_))
  show wpAny _ A (do let _ ← comprehension (.ListComp elt [⟨.Name x1 p1, i1, [], 0⟩, ⟨.Name x2 p2, i2, f2, 0⟩] scope pos) scope env _ (newList []) false (eval i1 env) (some (assign (.Name y py) env))) _ _ _
  refine wpAny_bind (wpAny_mono (wpAny_comprehension_free (use := some (assign (.Name y py) env)) (Q := fun _ s' => Q .next s') rfl hs hclos hkind hnames ?_) (fun _ s' hq => wpAny_pure (wpAny_pure hq)) fun _ _ e => e)
  refine h1 _ _ (wpAny_pyIter_list (s := ⟨h, gn, d, t, os⟩) hl ?_)
  have hlt : ax < h.objs.size := let ⟨o, ho, _⟩ := hl; Heap.lt_size ho
  have W := Walks.list (prog := pg) (w := w) hA h.objs.size ax (Nat.ne_of_lt hlt) items
  generalize hH1 : h.push { cls := .type "list_iterator", data := .fields #[.ref ax, .int 0 0] } = H1
  have hz1 : H1.objs.size = h.objs.size + 1 := by rw [← hH1, Heap.size_push]
  have hk1 : Keep h H1 := fun b o e => hH1 ▸ Heap.get?_push_of_some _ e
  have hit : H1.IsListIter h.objs.size ax 0 ∧ H1.IsList ax items := hH1 ▸ ⟨⟨_, Heap.get?_push_size _ rfl, rfl, rfl⟩, hl.push _⟩
  refine new_list (by decide) ?_
  generalize hH2 : H1.push (lst #[] 0) = H2
  have hz2 : H2.objs.size = h.objs.size + 2 := by rw [← hH2, Heap.size_push, hz1]
  have hk2 : Keep H1 H2 := fun b o e => hH2 ▸ Heap.get?_push_of_some _ e
  have hD2 : H2.get? H1.objs.size = some (lst #[] 0) := hH2 ▸ Heap.get?_push_size _ rfl
  refine wpAny_newFunctionEnv (s := ⟨_, gn, d, t, os⟩) hcell (by intro y hy; simp at hy) (fun h₁ hns₁ hsb₁ => ?_) hkind
  dsimp only at hns₁ hsb₁ ⊢
  have hkb : Keep H2 h₁ := fun b o e => hsb₁.extBut b o (Nat.ne_of_lt (Heap.lt_size e)) (Heap.get?_push_of_some _ e)
  have hk0 : Keep h h₁ := fun b o e => hkb b o (hk2 b o (hk1 b o e))
  have hN : h₁.Ns H2.objs.size (slot (lcS (relabel scope env)) [none, none, none]) := by
    have e : slot (lcS (relabel scope env)) [none, none, none] = fun _ => none := by
      funext z
      unfold slot
      rcases idx (lcS (relabel scope env)) z with _ | _ | _ | _ <;> rfl
    rw [e]
    have e2 : (fun x : Str => ([] : List (Str × Value)).reverse.lookup x) = fun _ => none := by funext z; rfl
    rw [← e2]; exact hns₁
  have hCn : h.get? H2.objs.size = none := none_above (by rw [hz2]; lia)
  have hDn : h.get? H1.objs.size = none := none_above (by rw [hz1]; lia)
  have S₁ : St h H2.objs.size (lcS (relabel scope env)) [none, none, none] [(H1.objs.size, lst #[] 0)] h₁ := ⟨hN, hlen.symm, hk0, hCn, fun p hp => by
    rw [List.mem_singleton.mp hp]
    exact ⟨hkb _ _ hD2, by show H1.objs.size ≠ H2.objs.size; rw [hz1, hz2]; lia, hDn⟩, by simp⟩
  have hit₁ : h₁.IsListIter h.objs.size ax 0 ∧ h₁.IsList ax items := ⟨hit.1.at fun o e => hkb _ _ (hk2 _ _ e), hit.2.at fun o e => hkb _ _ (hk2 _ _ e)⟩
  have hCI : H2.objs.size ≠ h.objs.size := by rw [hz2]; lia
  have hDI : H1.objs.size ≠ h.objs.size := by rw [hz1]; lia
  have hCx : H2.objs.size ≠ ax := Nat.ne_of_gt (by rw [hz2]; exact Nat.lt_succ_of_lt (Nat.lt_succ_of_lt hlt))
  have hDx : H1.objs.size ≠ ax := Nat.ne_of_gt (by rw [hz1]; exact Nat.lt_succ_of_lt hlt)
  have hCD : H2.objs.size ≠ H1.objs.size := by rw [hz1, hz2]; lia
  have hDle : h.objs.size ≤ H1.objs.size := by rw [hz1]; lia
  have hCle : h.objs.size ≤ H2.objs.size := by rw [hz2]; lia
  generalize H2.objs.size = C at *
  generalize H1.objs.size = D at *
  have loop : codeAny (model pg w) A (.compLoop (.ListComp elt [⟨.Name x1 p1, i1, [], 0⟩, ⟨.Name x2 p2, i2, f2, 0⟩] scope pos) 0 (.ref h.objs.size) (.ref D) (compEnvC scope cl C env))
      (compPost (model pg w) A E (some (assign (.Name y py) env)) (fun _ s' => Q .next s') (.ref D) C) ⟨h₁, gn, d, t + ([] : List (Str × Value)).length, os⟩ := by
    have hLw : C ∉ [h.objs.size] := by simpa using hCI
    obtain ⟨Inv, hInv⟩ : ∃ Inv : Nat → Shared → Prop, Inv = fun r s => ∃ k vs acc nn ex h₂ t₂, s = ⟨h₂, gn, d, t₂, os⟩ ∧ r = items.size - k ∧ k ≤ items.size ∧ J k acc ex ∧ (∀ p ∈ ex, p.1 ∉ [h.objs.size, ax]) ∧ St h C (lcS (relabel scope env)) vs ((D, lst acc nn) :: ex) h₂ ∧ (h₂.IsListIter h.objs.size ax k ∧ h₂.IsList ax items) := ⟨_, rfl⟩
    refine loop_0 Inv ?_ items.size
      (by rw [hInv]; exact ⟨0, _, #[], 0, [], h₁, _, rfl, rfl, Nat.zero_le _, hJ, (fun _ hp => by cases hp), S₁, hit₁⟩) (by intro _; rfl) (hs2 C)
    intro r s hInv0
    rw [hInv] at hInv0
    obtain ⟨k, vs, acc, nn, ex, h₂, t₂, rfl, rfl, hk, hJ, hex, S₂, hI⟩ := hInv0
    have hof : ∀ p ∈ ((D, lst acc nn) :: ex), p.1 ∉ [h.objs.size, ax] := fun p hp => by
      rcases List.mem_cons.mp hp with rfl | hp
      · simp [hDI, hDx]
      · exact hex p hp
    by_cases hkm : k = items.size
    · subst hkm
      refine W.done _ _ _ hI fun h' tk hk' => ?_
      have S' := S₂.moved (wr := [h.objs.size]) hk' hLw (fun b hb => by rw [List.mem_singleton.mp hb]; exact none_above (Nat.le_refl _)) fun p hp hm => hof p hp (W.sub _ hm)
      show wpAny _ A (assign (.Name y py) env (.ref D)) _ _ _
      have SL : St g L (lcS sco) vals (((D, lst acc nn) :: ex) ++ own) h' := S.adopts S'
      have hLC : L ≠ C := Nat.ne_of_lt (Nat.lt_of_lt_of_le S.isNs.lt hCle)
      refine wpAny_assign_Name (r_st SL qy (fun h₃ t₃ S₃ e₃ => ?_) V)
      refine ⟨_, S'.isNs.extBut e₃ hLC.symm, fun h₄ hs₄ => done D acc nn ex h₄ t₃ hJ hDle ?_⟩
      refine S₃.moved (wr := [C]) (fun b o hb e => hs₄.extBut b o (fun q => hb (by rw [q]; exact .head _)) e) (by simpa using hLC) (fun b hb => ?_) fun p hp hm => ?_
      · rw [List.mem_singleton.mp hb]
        cases hq : g.get? C with
        | none => rfl
        | some o => rw [S.keep _ _ hq] at hCn; cases hCn
      · have hpC := List.mem_singleton.mp hm
        rcases List.mem_append.mp hp with hp | hp
        · exact (S'.isOwn p hp).2.1 hpC
        · exact absurd (S.own_lt hp) (Nat.not_lt.mpr (hpC ▸ hCle))
    · refine W.item k _ _ _ (Nat.lt_of_le_of_ne hk hkm) hI fun v h' tk hP hI' hk' => ?_
      have S' := S₂.moved (wr := [h.objs.size]) hk' hLw (fun b hb => by rw [List.mem_singleton.mp hb]; exact none_above (Nat.le_refl _)) fun p hp hm => hof p hp (W.sub _ hm)
      refine wpAny_assign_Name (r_st S'.rebase q1 (fun h₃ t₃ S₃ e₃ => ?_) ⟨rfl, rfl, V.globals, V.builtins⟩)
      have hvl : vs.length = 3 := S₂.len.trans hlen
      obtain ⟨oz, o1, o2, rfl⟩ : ∃ oz o1 o2, vs = [oz, o1, o2] := by
        match vs, hvl with
        | [a, b, c], _ => exact ⟨a, b, c, rfl⟩
      refine wpAny_mono (turn k v oz o2 C D acc nn ex _ h₃ t₃ hP hJ S'.below hCD S₃) (fun x s₃ hp => ?_) fun _ _ h => h
      refine wpAny_mono hp (fun it2 s₄ hp => ?_) fun _ _ h => h
      refine codeAny_mono hp fun r s' hr => ?_
      cases r with
      | error e => exact hr
      | ok f =>
        obtain ⟨h₄, t₄, acc', nn', ex', vs', rfl, S₄, hJ₄⟩ := hr
        have hin : ∀ b ∈ [h.objs.size, ax], b ∉ C :: ((D, lst acc nn) :: ex).map (·.1) := fun b hb hm => by
          rcases List.mem_cons.mp hm with e | hm
          · have hb' : b = h.objs.size ∨ b = ax := by simpa using hb
            rcases hb' with e' | e'
            · exact hCI (e.symm.trans e')
            · exact hCx (e.symm.trans e')
          · obtain ⟨q, hq, e⟩ := List.mem_map.mp hm
            exact hof q hq (e ▸ hb)
        refine ⟨items.size - (k + 1), by lia, ?_⟩
        rw [hInv]
        refine ⟨k + 1, _, acc', nn', ex', h₄, t₄, rfl, rfl, by lia, hJ₄, fun p hp hb => ?_, S₄.weaken S'.below, ?_⟩
        · have hn := (S₄.isOwn p (.tail _ hp)).2.2
          rw [hide_get, if_neg (hin _ hb)] at hn
          obtain ⟨⟨o, ho, _⟩, ⟨o', ho', _⟩⟩ := hI'
          have hb' : p.1 = h.objs.size ∨ p.1 = ax := by simpa using hb
          rcases hb' with e | e
          · rw [e, ho] at hn; cases hn
          · rw [e, ho'] at hn; cases hn
        · refine W.frame (k + 1) h' h₄ hI' (fun b hb o e => ?_)
          refine S₄.keep b o ?_
          rw [hide_get, if_neg (hin b hb), e]
  exact codeAny_compStart_list loop (W.self 0 _ _ _ hit₁ loop)
end
end Mine
end
-- part M15
section
set_option maxRecDepth 100000
set_option linter.unusedVariables false
set_option maxHeartbeats 4000000
namespace Mine
open PyProof PySem PySem.Calls PyProof.Rows PySem.W PySem.W.X
section
variable {w : World} {A : Around} {E : Value → Shared → Prop} {h : Heap} {gn : Array GenState} {d : Drawn} {t : Nat} {os : OsState} {g : Heap} {L a : Addr} {i : Nat} {vals : List (Option Value)} {own : List (Addr × Obj)}
  {fa : Nat → Addr} {mg mb : Str → Option Value} {n : Str} {cd : Value} {pos : Pos} {sco : Scope} {env : Env}

/-- a for over anything that walks: the turn over a base that holds all but the frame's own -/
theorem walk_for2 {x : Str} {kx m : Nat} {px : Pos} {body : List Stmt} {R : Result → Shared → Prop} {I : Addr} {fp wr : List Addr} {P : Nat → Value → Prop} {Sx : Nat → Heap → Prop}
    (W : Walks pg w A I fp wr m P Sx) (q : LocS sco x kx) (J : Nat → List (Option Value) → List (Addr × Obj) → Prop)
    (turn : ∀ k v vals own g₂ h t₁ gn', k < m → P k v → t ≤ t₁ → J k vals own → Keep g g₂ → gn = gn' → St g₂ L (lcS sco) (vals.set kx (some v)) own h →
      wpAny (model pg w) A (execs body env) (fun f s' => (f = .next ∧ ∃ h' t' gn'' vals' own', s' = ⟨h', gn'', d, t', os⟩ ∧ gn = gn'' ∧ St g₂ L (lcS sco) vals' own' h' ∧ J (k + 1) vals' own') ∨ (∃ v, f = .ret v ∧ R (.ok (.ret v)) s'))
        (fun _ _ => False) ⟨h, gn', d, t₁, os⟩)
    (done : ∀ vals own h t₁ gn', J m vals own → t ≤ t₁ → gn = gn' → St g L (lcS sco) vals own h → R (.ok .next) ⟨h, gn', d, t₁, os⟩)
    (hJ : J 0 vals own) (S : St g L (lcS sco) vals own h) (hI : Sx 0 h) (hL : L ∉ fp) (hown : ∀ p ∈ own, p.1 ∉ fp) (hwg : ∀ b ∈ wr, g.get? b = none) (hfl : ∀ k h, Sx k h → ∀ b ∈ fp, h.get? b ≠ none) (V : EnvIs env sco L := by exact ⟨rfl, rfl, rfl, rfl⟩) :
    codeAny (model pg w) A (.forLoop (.Name x px) (.ref I) body [] env) R ⟨h, gn, d, t, os⟩ := by
  have hLw : L ∉ wr := fun hm => hL (W.sub L hm)
  obtain ⟨Inv, hInv⟩ : ∃ Inv : Nat → Shared → Prop, Inv = fun r s => ∃ k vals own' h t₁ gn', s = ⟨h, gn', d, t₁, os⟩ ∧ t ≤ t₁ ∧ r = m - k ∧ k ≤ m ∧ J k vals own' ∧ gn = gn' ∧ St g L (lcS sco) vals own' h ∧ Sx k h ∧ ∀ p ∈ own', p.1 ∉ fp := ⟨_, rfl⟩
  refine codeAny_forLoop_any Inv ?_ m
    (by rw [hInv]; exact ⟨0, vals, own, h, t, gn, rfl, Nat.le_refl _, rfl, Nat.zero_le _, hJ, rfl, S, hI, hown⟩)
  clear hJ S hI
  intro r s hInv0
  rw [hInv] at hInv0
  obtain ⟨k, vals, own', h, t₁, gn', rfl, ht, rfl, hk, hJ, gx, S, hI, hown'⟩ := hInv0
  by_cases hkm : k = m
  · subst hkm
    refine wpAny_with_toks (n := t) ht (W.done _ _ _ hI fun h' tk hk' hle => ?_)
    have S' := S.moved (wr := wr) hk' hLw hwg fun p hp hm => hown' p hp (W.sub _ hm)
    exact wpAny_execs_nil (done vals own' h' tk gn' hJ hle gx S')
  · refine wpAny_with_toks (n := t) ht (W.item k _ _ _ (Nat.lt_of_le_of_ne hk hkm) hI fun v h' tk hP hI' hk' hle => ?_)
    have S' := S.moved (wr := wr) hk' hLw hwg fun p hp hm => hown' p hp (W.sub _ hm)
    show wpAny _ A (pure ()) _ _ _
    refine wpAny_pure (wpAny_assign_Name (wpAny_with_toks (n := t) hle (r_st S'.rebase q (fun h₃ t₃ S₃ e₃ hle₃ => ?_) V)))
    refine wpAny_mono (wpAny_toks_of (n := t) hle₃ (turn k v vals own' _ h₃ t₃ gn' (Nat.lt_of_le_of_ne hk hkm) hP hle₃ hJ S'.below gx S₃)) (fun f s₃ hp => ?_) fun _ _ h => h.2.elim
    obtain ⟨hle₄, hp⟩ := hp
    rcases hp with ⟨rfl, h₄, t₄, gn₄, vals₄, own₄, rfl, gx₄, S₄, hJ₄⟩ | ⟨v', rfl, hr⟩
    · refine ⟨m - (k + 1), by lia, ?_⟩
      rw [hInv]
      refine ⟨k + 1, vals₄, own₄, h₄, t₄, gn₄, rfl, hle₄, rfl, by lia, hJ₄, gx₄, S₄.weaken S'.below, W.frame (k + 1) h' h₄ hI' (fun b hb o e => ?_), fun p hp hb => ?_⟩
      refine S₄.keep b o ?_
      rw [hide_get, if_neg, e]
      intro hm
      rcases List.mem_cons.mp hm with rfl | hm
      · exact hL hb
      · obtain ⟨p, hp, rfl⟩ := List.mem_map.mp hm
        exact hown' p hp hb
      · refine hfl _ _ hI' p.1 hb ?_
        have := (S₄.isOwn p hp).2.2
        rw [hide_get, if_neg] at this
        · exact this
        · intro hm
          rcases List.mem_cons.mp hm with e | hm
          · exact hL (e ▸ hb)
          · obtain ⟨q, hq, e⟩ := List.mem_map.mp hm
            exact hown' q hq (e ▸ hb)
    · exact hr

theorem for_range2 {x : Str} {kx m : Nat} {px : Pos} {body : List Stmt} {R : Result → Shared → Prop} {r : Addr} {a₀ b₀ c₀ : Int} {u₁ u₂ u₃ : Tok} (hA : A.handled = none) (S : St g L (lcS sco) vals own h) (hr : IsRange h r a₀ b₀ c₀ u₁ u₂ u₃)
    (hsm : Builtin.Range.small a₀ b₀ c₀ = true) (hsz : Builtin.Range.rangeSize a₀ b₀ c₀ = (m : Int)) (q : LocS sco x kx) (J : Nat → List (Option Value) → List (Addr × Obj) → Prop)
    (turn : ∀ k tk vals own g₂ h t₁ gn', k < m → t ≤ t₁ → J k vals own → Keep g g₂ → gn = gn' → St g₂ L (lcS sco) (vals.set kx (some (.int (a₀ + k * c₀) tk))) own h →
      wpAny (model pg w) A (execs body env) (fun f s' => (f = .next ∧ ∃ h' t' gn'' vals' own', s' = ⟨h', gn'', d, t', os⟩ ∧ gn = gn'' ∧ St g₂ L (lcS sco) vals' own' h' ∧ J (k + 1) vals' own') ∨ (∃ v, f = .ret v ∧ R (.ok (.ret v)) s'))
        (fun _ _ => False) ⟨h, gn', d, t₁, os⟩)
    (done : ∀ vals own h t₁ gn', J m vals own → t ≤ t₁ → gn = gn' → St g L (lcS sco) vals own h → R (.ok .next) ⟨h, gn', d, t₁, os⟩)
    (hJ : J 0 vals own) (V : EnvIs env sco L := by exact ⟨rfl, rfl, rfl, rfl⟩) :
    wpAny (model pg w) A (pyIter (.ref r)) (fun it s₂ => codeAny (model pg w) A (.forLoop (.Name x px) it body [] env) R s₂) E ⟨h, gn, d, t, os⟩ := by
  refine wpAny_pyIter_range (s := ⟨h, gn, d, t, os⟩) hr hsm ?_
  have S' := (S.push { cls := .type "range_iterator", data := .fields #[rawInt a₀, rawInt (Builtin.Range.rangeSize a₀ b₀ c₀), rawInt c₀] }).drop (List.sublist_cons_self _ _)
  refine walk_for2 (V := V) (Walks.range hA h.objs.size a₀ c₀ m) q J ?_ done hJ S' ?_ ?_ ?_ ?_ ?_
  · rintro k v vals own g₂ h t₁ gn' hk ⟨tk, rfl⟩ ht hJ hk2 gx S₂
    exact turn k tk vals own g₂ h t₁ gn' hk ht hJ hk2 gx S₂
  · show IsRangeIter _ _ _ _ _
    have e1 : a₀ + ((0 : Nat) : Int) * c₀ = a₀ := by simp
    have e2 : ((m : Int) - ((0 : Nat) : Int)) = m := by simp
    rw [e1, e2, ← hsz]
    exact Heap.get?_push_size _ rfl
  · simpa using Nat.ne_of_lt S.isNs.lt
  · intro p hp
    simpa using Nat.ne_of_lt (S.own_lt hp)
  · intro b hb
    rw [List.mem_singleton.mp hb]; exact S.fresh
  · intro k h hh b hb e
    have hh' : IsRangeIter _ _ _ _ _ := hh
    rw [List.mem_singleton.mp hb] at e
    rw [show h.get? _ = some _ from hh'] at e; cases e

/-- a for over anything that walks: the turn over a base that holds all but the frame's own -/
theorem walk_forA {x : Str} {m : Nat} {px : Pos} {body : List Stmt} {R : Result → Shared → Prop} {I : Addr} {fp wr : List Addr} {P : Nat → Value → Prop} {Sx : Nat → Heap → Prop}
    (W : Walks pg w A I fp wr m P Sx) (J : Nat → List (Option Value) → List (Addr × Obj) → Prop)
    (turn : ∀ k v vals own g₂ h t₁ gn', k < m → P k v → t ≤ t₁ → J k vals own → Keep g g₂ → gn = gn' → St g₂ L (lcS sco) vals own h →
      wpAny (model pg w) A (assign (.Name x px) env v) (fun _ s₁ => wpAny (model pg w) A (execs body env) (fun f s' => (f = .next ∧ ∃ h' t' gn'' vals' own', s' = ⟨h', gn'', d, t', os⟩ ∧ gn = gn'' ∧ St g₂ L (lcS sco) vals' own' h' ∧ J (k + 1) vals' own') ∨ (∃ v, f = .ret v ∧ R (.ok (.ret v)) s'))
        (fun _ _ => False) s₁) (fun _ _ => False) ⟨h, gn', d, t₁, os⟩)
    (done : ∀ vals own h t₁ gn', J m vals own → t ≤ t₁ → gn = gn' → St g L (lcS sco) vals own h → R (.ok .next) ⟨h, gn', d, t₁, os⟩)
    (hJ : J 0 vals own) (S : St g L (lcS sco) vals own h) (hI : Sx 0 h) (hL : L ∉ fp) (hown : ∀ p ∈ own, p.1 ∉ fp) (hwg : ∀ b ∈ wr, g.get? b = none) (hfl : ∀ k h, Sx k h → ∀ b ∈ fp, h.get? b ≠ none) :
    codeAny (model pg w) A (.forLoop (.Name x px) (.ref I) body [] env) R ⟨h, gn, d, t, os⟩ := by
  have hLw : L ∉ wr := fun hm => hL (W.sub L hm)
  obtain ⟨Inv, hInv⟩ : ∃ Inv : Nat → Shared → Prop, Inv = fun r s => ∃ k vals own' h t₁ gn', s = ⟨h, gn', d, t₁, os⟩ ∧ t ≤ t₁ ∧ r = m - k ∧ k ≤ m ∧ J k vals own' ∧ gn = gn' ∧ St g L (lcS sco) vals own' h ∧ Sx k h ∧ ∀ p ∈ own', p.1 ∉ fp := ⟨_, rfl⟩
  refine codeAny_forLoop_any Inv ?_ m
    (by rw [hInv]; exact ⟨0, vals, own, h, t, gn, rfl, Nat.le_refl _, rfl, Nat.zero_le _, hJ, rfl, S, hI, hown⟩)
  clear hJ S hI
  intro r s hInv0
  rw [hInv] at hInv0
  obtain ⟨k, vals, own', h, t₁, gn', rfl, ht, rfl, hk, hJ, gx, S, hI, hown'⟩ := hInv0
  by_cases hkm : k = m
  · subst hkm
    refine wpAny_with_toks (n := t) ht (W.done _ _ _ hI fun h' tk hk' hle => ?_)
    have S' := S.moved (wr := wr) hk' hLw hwg fun p hp hm => hown' p hp (W.sub _ hm)
    exact wpAny_execs_nil (done vals own' h' tk gn' hJ hle gx S')
  · refine wpAny_with_toks (n := t) ht (W.item k _ _ _ (Nat.lt_of_le_of_ne hk hkm) hI fun v h' tk hP hI' hk' hle => ?_)
    have S' := S.moved (wr := wr) hk' hLw hwg fun p hp hm => hown' p hp (W.sub _ hm)
    show wpAny _ A (pure ()) _ _ _
    refine wpAny_pure (wpAny_mono (wpAny_mono (wpAny_toks_of (n := t) hle (turn k v vals own' _ h' tk gn' (Nat.lt_of_le_of_ne hk hkm) hP hle hJ S'.below gx S'.rebase)) (fun _ s₁ hp => And.intro hp.1 hp.2) fun _ _ h => h) (fun _ s₁ hp => ?_) fun _ _ h => h.2.elim)
    refine wpAny_mono (wpAny_toks_of (n := t) hp.1 hp.2) (fun f s₃ hp => ?_) fun _ _ h => h.2.elim
    obtain ⟨hle₄, hp⟩ := hp
    rcases hp with ⟨rfl, h₄, t₄, gn₄, vals₄, own₄, rfl, gx₄, S₄, hJ₄⟩ | ⟨v', rfl, hr⟩
    · refine ⟨m - (k + 1), by lia, ?_⟩
      rw [hInv]
      refine ⟨k + 1, vals₄, own₄, h₄, t₄, gn₄, rfl, hle₄, rfl, by lia, hJ₄, gx₄, S₄.weaken S'.below, W.frame (k + 1) h' h₄ hI' (fun b hb o e => ?_), fun p hp hb => ?_⟩
      refine S₄.keep b o ?_
      rw [hide_get, if_neg, e]
      intro hm
      rcases List.mem_cons.mp hm with rfl | hm
      · exact hL hb
      · obtain ⟨p, hp, rfl⟩ := List.mem_map.mp hm
        exact hown' p hp hb
      · refine hfl _ _ hI' p.1 hb ?_
        have := (S₄.isOwn p hp).2.2
        rw [hide_get, if_neg] at this
        · exact this
        · intro hm
          rcases List.mem_cons.mp hm with e | hm
          · exact hL (e ▸ hb)
          · obtain ⟨q, hq, e⟩ := List.mem_map.mp hm
            exact hown' q hq (e ▸ hb)
    · exact hr


theorem for_listA {x : Str} {px : Pos} {body : List Stmt} {R : Result → Shared → Prop} {ax : Addr} {items : Array Value} (hA : A.handled = none) (S : St g L (lcS sco) vals own h) (hl : h.IsList ax items) (hx : ax ≠ L) (hxo : ∀ p ∈ own, p.1 ≠ ax)
    (J : Nat → List (Option Value) → List (Addr × Obj) → Prop)
    (turn : ∀ k v vals own g₂ h t₁ gn', items[k]? = some v → t ≤ t₁ → J k vals own → Keep g g₂ → gn = gn' → St g₂ L (lcS sco) vals own h →
      wpAny (model pg w) A (assign (.Name x px) env v) (fun _ s₁ => wpAny (model pg w) A (execs body env) (fun f s' => (f = .next ∧ ∃ h' t' gn'' vals' own', s' = ⟨h', gn'', d, t', os⟩ ∧ gn = gn'' ∧ St g₂ L (lcS sco) vals' own' h' ∧ J (k + 1) vals' own') ∨ (∃ v, f = .ret v ∧ R (.ok (.ret v)) s'))
        (fun _ _ => False) s₁) (fun _ _ => False) ⟨h, gn', d, t₁, os⟩)
    (done : ∀ vals own h t₁ gn', J items.size vals own → t ≤ t₁ → gn = gn' → St g L (lcS sco) vals own h → R (.ok .next) ⟨h, gn', d, t₁, os⟩)
    (hJ : J 0 vals own) :
    wpAny (model pg w) A (pyIter (.ref ax)) (fun it s₂ => codeAny (model pg w) A (.forLoop (.Name x px) it body [] env) R s₂) E ⟨h, gn, d, t, os⟩ := by
  refine wpAny_pyIter_list (s := ⟨h, gn, d, t, os⟩) hl ?_
  have hlt : ax < h.objs.size := let ⟨o, ho, _⟩ := hl; Heap.lt_size ho
  have S' := (S.push { cls := .type "list_iterator", data := .fields #[.ref ax, .int 0 0] }).drop (List.sublist_cons_self _ _)
  refine walk_forA (Walks.list hA h.objs.size ax (Nat.ne_of_lt hlt) items) J ?_ done hJ S' ⟨⟨_, Heap.get?_push_size _ rfl, rfl, rfl⟩, hl.push _⟩ ?_ ?_ ?_ ?_
  · rintro k v vals own g₂ h t₁ gn' hk hv ht hJ hk2 gx S₂
    exact turn k v vals own g₂ h t₁ gn' hv ht hJ hk2 gx S₂
  · have := Nat.ne_of_lt S.isNs.lt
    simp [this, hx.symm]
  · intro p hp
    have h1 := Nat.ne_of_lt (S.own_lt hp)
    have h2 := hxo p hp
    simp [h1, h2]
  · intro b hb
    rw [List.mem_singleton.mp hb]; exact S.fresh
  · intro k h hh b hb e
    obtain ⟨⟨o, ho, _⟩, ⟨o', ho', _⟩⟩ := hh
    rcases List.mem_cons.mp hb with rfl | hb
    · rw [ho] at e; cases e
    · rw [List.mem_singleton.mp hb, ho'] at e; cases e

end
end Mine
end
-- part M16
section
set_option maxRecDepth 100000
set_option linter.unusedVariables false
set_option maxHeartbeats 4000000
namespace Mine
open PyProof PySem PySem.Calls PyProof.Rows PySem.W PySem.W.X

noncomputable def signsU (c : Int) (row : Str) : Nat → List Str
  | 0 => []
  | k + 1 => if Txt.count row ⟨#[("()" : Str).cps[k]?.getD 0]⟩ < c then signsU c row k ++ [row ++ ⟨#[("()" : Str).cps[k]?.getD 0]⟩] else signsU c row k
noncomputable def rowsStep (c : Int) (rows : List Str) : List Str := rows.flatMap fun r => signsU c r 2
noncomputable def rowsU (c : Int) : Nat → List Str
  | 0 => ["("]
  | k + 1 => rowsStep c (rowsU c k)
theorem signs_len (c : Int) (row : Str) : ∀ k, (signsU c row k).length ≤ k ∧ ∀ r ∈ signsU c row k, r.length = row.length + 1 := by
  intro k
  induction k with
  | zero => exact ⟨Nat.le_refl _, fun r hr => by cases hr⟩
  | succ k ih =>
    unfold signsU
    split
    · refine ⟨by simp; exact ih.1, fun r hr => ?_⟩
      rcases List.mem_append.mp hr with h | h
      · exact ih.2 r h
      · rw [List.mem_singleton.mp h]
        show (row.cps ++ #[_]).size = row.cps.size + 1
        simp
    · exact ⟨Nat.le_succ_of_le ih.1, ih.2⟩
theorem flat_len {α β : Type} {n : Nat} (f : α → List β) (hf : ∀ a, (f a).length ≤ n) : ∀ l : List α, (l.flatMap f).length ≤ n * l.length := by
  intro l
  induction l with
  | nil => simp
  | cons a l ih =>
    rw [List.flatMap_cons, List.length_append, List.length_cons, Nat.mul_succ]
    have := hf a; lia
theorem rows_len (c : Int) : ∀ k, (rowsU c k).length ≤ 2 ^ k ∧ ∀ r ∈ rowsU c k, r.length = k + 1 := by
  intro k
  induction k with
  | zero => exact ⟨by simp [rowsU], fun r hr => by rw [show rowsU c 0 = [("(" : Str)] from rfl] at hr; rw [List.mem_singleton.mp hr]; rfl⟩
  | succ k ih =>
    refine ⟨?_, fun r hr => ?_⟩
    · have := flat_len (fun r => signsU c r 2) (fun a => (signs_len c a 2).1) (rowsU c k)
      show (rowsStep c (rowsU c k)).length ≤ _
      unfold rowsStep
      rw [Nat.pow_succ]; lia
    · obtain ⟨q, hq, hr⟩ := List.mem_flatMap.mp hr
      rw [(signs_len c q 2).2 r hr, ih.2 q hq]
theorem strs_at {vs : List Value} {ys : List Str} (h : StrsAre vs ys) : ∀ {k : Nat} {v : Value}, vs[k]? = some v → ∃ y tk, v = .str y tk ∧ ys[k]? = some y := by
  induction h with
  | nil => intro k v h; simp at h
  | cons y t _ ih =>
    intro k v h
    cases k with
    | zero => simp at h; exact ⟨y, t, h.symm, rfl⟩
    | succ k => simpa using ih (by simpa using h)
theorem take_flat {α β : Type} (f : α → List β) {l : List α} {k : Nat} {a : α} (h : l[k]? = some a) : (l.take (k + 1)).flatMap f = (l.take k).flatMap f ++ f a := by
  rw [List.take_add_one, h]; simp

section
variable {w : World} {A : Around} {E : Value → Shared → Prop} {h : Heap} {gn : Array GenState} {d : Drawn} {t : Nat} {os : OsState} {g : Heap} {L a : Addr} {i : Nat} {vals : List (Option Value)} {own : List (Addr × Obj)}
  {fa : Nat → Addr} {mg mb : Str → Option Value} {n : Str} {cd : Value} {pos : Pos} {sco : Scope} {env : Env}
theorem o_lt {x y : Int} {t1 t2 : Tok} {s : Shared} {Q : Value → Shared → Prop} (c : Q (.bool (decide (x < y))) s) : wpAny (model pg w) A (compareOp .Lt (.int x t1) (.int y t2)) Q E s := P.lt_int c
theorem tests1 {e : PySem.Expr} {cenv : Env} {s : Shared} {Q : Bool → Shared → Prop} (h : wpAny (model pg w) A (isTrue e cenv (eval e cenv)) Q E s) : wpAny (model pg w) A (testsT cenv [e]) Q E s := by
  unfold testsT
  simp only [List.forIn_cons, List.forIn_nil, if_true]
  exact wpAny_bind (wpAny_bind (wpAny_mono h (fun ok s' hq => wpAny_pure (wpAny_pure hq)) fun _ _ x => x))
theorem tests0 {cenv : Env} {s : Shared} {Q : Bool → Shared → Prop} (h : Q true s) : wpAny (model pg w) A (testsT cenv []) Q E s := wpAny_pure h

theorem mkL {s : Scope} {x : Str} {k : Nat} (h1 : s.names.lookup x = some .local := by rfl) (h2 : idx (lcS s) x = k := by rfl) (h3 : Nat.ble (k + 1) (lcS s).length = true := by rfl) (h4 : (x == ("__debug__" : Str)) = false := by rfl) (h5 : s.kind = .function := by rfl) : LocS s x k :=
  ⟨h1, h2, Nat.le_of_ble_eq_true h3, h4, h5⟩
theorem r_ldG {x : Str} {c : Addr} {v : Value} {ns : List Str} {Q : Value → Shared → Prop} (S : St g L ns vals own h) (hg : g.IsCell c (some v)) (hc : env.cells.lookup x = some c)
    (kk : Q v ⟨h, gn, d, t, os⟩) (hl : env.kindOf x = some .cell := by rfl) (hk : env.scope.kind = .function := by rfl) (hd : (x == ("__debug__" : Str)) = false := by rfl) : wpAny (model pg w) A (eval (.Name x pos) env) Q E ⟨h, gn, d, t, os⟩ :=
  wpAny_Name (wpAny_loadName_cell hk hl hc (hg.keeps S.keep) kk) hd
theorem rows_spec {R : Result → Shared → Prop} {c : Int} {tc : Tok} {m : Nat} (B : Base fa mg mb h) (hA : A.handled = none) (hroom : A.depth + 5 < recursionLimit)
    (hc : 0 ≤ c ∧ c ≤ 100) (hsm : Builtin.Range.small 0 (2 * c - 1) 1 = true) (hsz : Builtin.Range.rangeSize 0 (2 * c - 1) 1 = (m : Int)) (hm : m ≤ 10)
    (k : ∀ h' t' P items nn, Keep h h' → h.objs.size ≤ P → h'.get? P = some (lst items nn) → StrsAre items.toList (rowsU c m) → R (.ok (.ret (.ref P))) ⟨h', gn, d, t', os⟩) :
    codeAny (model pg w) A (.call (.ref (fa 19)) ⟨[.int c tc], []⟩) R ⟨h, gn, d, t, os⟩ := by
  refine enterC [none, none] B (by decide) (by lia) ⟨by decide, by decide, by decide⟩ (fun _ _ _ => by kernel_rfl) ?_ ?_ (by decide) fun L cd h₁ t₁ hL₁ S X => ?_
  · intro L x hx
    have : x ∈ (pr 19).args := hx
    rw [show (pr 19).args = [(pr 19).args.head (by decide)] by rfl] at this
    rw [List.mem_singleton.mp this]
    exact .inr ⟨by rfl, by rfl⟩
  · intro L cd
    funext y
    have e : slot (lc 19) [none, none] y = none := by
      unfold slot
      rcases idx (lc 19) y with _ | _ | _ <;> rfl
    rw [e]; rfl
  obtain ⟨oc, hoc, S⟩ := S.addCell (c := L + 1) (v := some (.int c tc)) (X.cell "count" _ (by rfl)) (by show L + 1 ≠ L; lia) (none_above (by lia)) (by simp)
  clear X
  refine wpAny_execs_cons (wpAny_Assign_Name (List_ (acons (c_str fun t₂ => anil ?_))))
  refine new_list (le_line (by show 1 ≤ _; lia)) ?_
  refine r_st (S.push (lst #[.str "(" _] 0)) v19_rows fun h₂ t₃ S₂ _ => ?_
  have hD : h.objs.size ≤ h₁.objs.size := Nat.le_trans hL₁ (Nat.le_of_lt S.isNs.lt)
  generalize h₁.objs.size = D at S₂ hD
  refine wpAny_execs_cons (wpAny_For ?_)
  refine Call_ (r_bt S₂ B g19_range b_range ?_)
  refine cw_type (acons ?_)
  refine wpAny_BinOp (wpAny_BinOp (c_int fun t₄ => r_ldC (c := L + 1) (o := oc) (v := .int c tc) S₂ (by simp) hoc (by rfl) (by rfl) (by rfl) (by rfl) (o_mul (.of_left (by decide)) fun u₁ t₅ => c_int fun t₆ => o_sub fun u₂ t₇ => ?_)))
  refine anil (o_range1 fun h₃ r u v t₈ hk₃ hz₃ hr₃ hR => ?_)
  refine for_range2 (A := A.deeper (envOfC (nm 19) (sc 19) L (fa 19) cd)) hA (S₂.keeps hk₃) hR hsm hsz v19_place (fun k vals own => ∃ P items nn v1 o, vals = [some (.ref P), v1] ∧ h.objs.size ≤ P ∧ own = [(P, lst items nn), (L + 1, o)] ∧ o.data = .cell (some (.int c tc)) ∧ StrsAre items.toList (rowsU c k)) ?_ ?_ ?_
  · rintro k tk vals own g₂ h₄ t₁₀ gn₁ hk hle ⟨P, items, nn, v1, o, rfl, hP, rfl, ho, hI⟩ hg₂ rfl S₄
    have hlen := rows_len c k
    have hk10 : 2 ^ k ≤ 1024 := Nat.pow_le_pow_right (n := 2) (by lia) (by lia : k ≤ 10)
    refine wpAny_execs_cons (comp2 (cl := [("count", L + 1)]) (sco := sc 19) S₄ hA (by rfl) (by rfl) (by decide) (by rfl) (by decide) mkL (by rfl) v19_rows
      (fun Q E hq => r_loc S₄ v19_rows rfl hq) ⟨_, (S₄.isOwn _ (.head _)).1, rfl, _, rfl⟩ (fun j acc ex => ex = [] ∧ StrsAre acc.toList (((rowsU c k).take j).flatMap fun r => signsU c r 2)) ⟨rfl, .nil⟩ ?_ ?_)
    · rintro j v oz o' C D' acc nn' ex g₃ h₅ t₁₁ hv ⟨rfl, hJ⟩ hk₃ hCD S₅
      have hcell : g₃.IsCell (L + 1) (some (.int c tc)) := ⟨o, hk₃ _ _ (S₄.isOwn _ (.tail _ (.head _))).1, ho⟩
      obtain ⟨r, tr, rfl, hr⟩ := strs_at hI (v := v) (by simpa using hv)
      have hrl := hlen.2 r (List.mem_of_getElem? hr)
      refine c_str fun t₁₂ => wpAny_pyIter_ascii (by decide +kernel) ?_
      have W := Walks.strAscii (prog := pg) (w := w) (A := A.deeper (envOfC (nm 19) (sc 19) L (fa 19) cd)) hA h₅.objs.size "()" t₁₁
      have hst : (h₅.push { cls := .type "str_ascii_iterator", data := .fields #[.str "()" t₁₁, .int 0 0] }).IsStrIter h₅.objs.size "str_ascii_iterator" "()" t₁₁ 0 := ⟨_, Heap.get?_push_size _ rfl, rfl, rfl⟩
      generalize ({ cls := .type "str_ascii_iterator", data := .fields #[.str "()" t₁₁, .int 0 0] } : Obj) = ob at hst ⊢
      have S₆ : St g₃ C _ [oz, some (.str r tr), o'] [(D', lst acc nn')] (h₅.push ob) := S₅.keeps fun b o e => Heap.get?_push_of_some _ e
      refine (fun loop => compStart1 loop (W.self 0 ⟨h₅.push ob, gn, d, t₁₂, os⟩ _ _ hst loop)) ?_
      refine inner_walk (vals := [oz, some (.str r tr), o']) (kx := 2) (o₀ := o') (cs := relabel _ (envOfC (nm 19) (sc 19) L (fa 19) cd)) W mkL (fun i acc ex => ex = [] ∧ StrsAre acc.toList ((((rowsU c k).take j).flatMap fun r => signsU c r 2) ++ signsU c r i)) ?_ ?_ ?_ S₆ hst ?_ ?_ (fun _ hp => by cases hp) ?_ ?_ ⟨rfl, rfl, rfl, rfl⟩
      · rintro i v acc nn ex g₄ h₆ t₁₃ hi ⟨ch, u, hch, rfl⟩ ⟨rfl, hJ⟩ hk₄ S₆
        have hz := strs_len hJ
        refine tests1 (wpAny_isTrue_Compare1 (MethodCall_ (r_loc S₆ (k := 1) mkL rfl (GM.count (cw_meth (acons (r_loc S₆ (k := 2) mkL rfl (anil ?_))))))))
        refine o_count fun u₁ t₁₄ => r_ldG S₆ (hcell.keeps hk₄) (by rfl) (o_lt (wpAny_truthy_bool ?_))
        have e : signsU c r (i + 1) = if Txt.count r ⟨#[ch]⟩ < c then signsU c r i ++ [r ++ ⟨#[ch]⟩] else signsU c r i := by
          show (if Txt.count r ⟨#[("()" : Str).cps[i]?.getD 0]⟩ < c then _ else _) = _
          rw [hch]; rfl
        by_cases hlt : Txt.count r ⟨#[ch]⟩ < c
        · rw [if_pos (by simpa using hlt)]
          rw [if_pos hlt] at e
          refine wpAny_BinOp (r_loc S₆ (k := 1) mkL rfl (r_loc S₆ (k := 2) mkL rfl (add_strs ?_ fun tk₂ t₁₅ => ⟨_, _, [], rfl, S₆, ?_, rfl, ?_⟩)))
          · refine le_line ?_
            rw [hrl]; show k + 1 + 1 ≤ _; lia
          · have f1 := flat_len (fun r => signsU c r 2) (fun a => (signs_len c a 2).1) ((rowsU c k).take j)
            have f2 : ((rowsU c k).take j).length ≤ (rowsU c k).length := by rw [List.length_take]; exact Nat.min_le_right _ _
            have f3 := (signs_len c r i).1
            have f4 := hlen.1
            have hi2 : i < 2 := hi
            rw [List.length_append, Array.length_toList] at hz
            refine le_line ?_
            lia
          · rw [Array.toList_push, e, ← List.append_assoc]
            exact strs_snoc hJ
        · rw [if_neg (by simpa using hlt)]
          rw [if_neg hlt] at e
          exact ⟨_, _, rfl, S₆, rfl, by rw [e]; exact hJ⟩
      · rintro o₂ acc nn ex h₆ t₁₃ ⟨rfl, hJ⟩ S₆
        refine ⟨_, _, acc, nn, [], _, rfl, S₆, rfl, ?_⟩
        show StrsAre _ (((rowsU c k).take (j + 1)).flatMap _)
        rw [take_flat _ hr]
        exact hJ
      · refine ⟨rfl, ?_⟩
        show StrsAre _ (_ ++ [])
        rw [List.append_nil]; exact hJ
      · simpa using Nat.ne_of_lt S₅.isNs.lt
      · simpa using Nat.ne_of_lt (S₅.own_lt (.head _))
      · rintro k h ⟨o, ho, _⟩ b hb e
        rw [List.mem_singleton.mp hb, ho] at e; cases e
      · intro b hb
        rw [List.mem_singleton.mp hb]; exact S₅.fresh
    · intro D' acc nn' ex h₅ t₁₁ hpat6 hD' S₅
      refine abs_q fun Q1 hQ1 => ?_
      obtain ⟨rfl, hJ⟩ := hpat6
      repeat refine wpAny_execs_nil ?_
      refine hQ1 _ _ (.inl ⟨rfl, _, _, _, _, _, rfl, rfl, (S₅.drop (own' := [(D', lst acc nn'), (L + 1, o)]) (.cons_cons _ (.cons _ (.refl _)))), D', acc, nn', _, o, rfl, ?_, rfl, ho, ?_⟩)
      · exact Nat.le_trans hP (Nat.le_trans (Nat.le_of_lt (S₄.own_lt (.head _))) hD')
      · show StrsAre _ (rowsStep c (rowsU c k))
        have e : items.size = (rowsU c k).length := by have := strs_len hI; simpa using this
        rw [e, List.take_length] at hJ
        exact hJ
  · rintro vals own h₄ t₁₀ gn₁ ⟨P, items, nn, v1, o, rfl, hP, rfl, ho, hI⟩ hle rfl S₄
    refine wpAny_execs_cons (wpAny_Return_some (r_loc S₄ v19_rows rfl ?_))
    exact k _ _ P items nn S₄.keep hP (S₄.isOwn _ (.head _)).1 hI
  · exact ⟨D, #[.str "(" _], 0, none, oc, rfl, hD, rfl, hoc, .cons _ _ .nil⟩
end
end Mine
end
-- part M17
section
set_option maxRecDepth 100000
set_option linter.unusedVariables false
set_option maxHeartbeats 4000000
namespace Mine
open PyProof PySem PySem.Calls PyProof.Rows PySem.W PySem.W.X

noncomputable def putAt (o : List Str) (x : Str) (k : Nat) : List Str := o.take k ++ [x] ++ o.drop k
noncomputable def insU (o : List Str) (x : Str) : Nat → List (List Str)
  | 0 => []
  | k + 1 => insU o x k ++ [putAt o x k]
noncomputable def stepO (os : List (List Str)) (x : Str) : List (List Str) := os.flatMap fun o => insU o x (o.length + 1)
noncomputable def ordersU (ns : List Str) : List (List Str) := ns.foldl stepO [[]]
theorem ins_len (o : List Str) (x : Str) : ∀ k, (insU o x k).length = k ∧ (k ≤ o.length + 1 → ∀ q ∈ insU o x k, q.length = o.length + 1) := by
  intro k
  induction k with
  | zero => exact ⟨rfl, fun _ q hq => by cases hq⟩
  | succ k ih =>
    refine ⟨by simp [insU, ih.1], fun hk q hq => ?_⟩
    rcases List.mem_append.mp hq with h | h
    · exact ih.2 (by lia) q h
    · rw [List.mem_singleton.mp h]
      simp [putAt]; lia
theorem flat_len2 {α β : Type} {n : Nat} (f : α → List β) : ∀ l : List α, (∀ a ∈ l, (f a).length ≤ n) → (l.flatMap f).length ≤ n * l.length := by
  intro l
  induction l with
  | nil => simp
  | cons a l ih =>
    intro hf
    rw [List.flatMap_cons, List.length_append, List.length_cons, Nat.mul_succ]
    have := hf a (.head _)
    have := ih fun b hb => hf b (.tail _ hb)
    lia
theorem orders_succ {ns : List Str} {k : Nat} {x : Str} (hk : ns[k]? = some x) : ordersU (ns.take (k + 1)) = stepO (ordersU (ns.take k)) x := by
  rw [List.take_add_one, hk]
  simp [ordersU, List.foldl_append]
theorem orders_len (ns : List Str) : ∀ k, k ≤ 4 → k ≤ ns.length → (ordersU (ns.take k)).length ≤ 5 ^ k ∧ ∀ q ∈ ordersU (ns.take k), q.length = k := by
  intro k
  induction k with
  | zero => intro _ _; exact ⟨by simp [ordersU], fun q hq => by rw [show ordersU (ns.take 0) = [[]] from rfl] at hq; rw [List.mem_singleton.mp hq]; rfl⟩
  | succ k ih =>
    intro h4 hn
    obtain ⟨h1, h2⟩ := ih (by lia) (by lia)
    rw [orders_succ (List.getElem?_eq_getElem (show k < ns.length by lia))]
    refine ⟨?_, fun q hq => ?_⟩
    · have := flat_len2 (n := 5) (fun o => insU o ns[k] (o.length + 1)) (ordersU (ns.take k)) fun o ho => by rw [(ins_len o _ _).1, h2 o ho]; lia
      unfold stepO
      rw [Nat.pow_succ]
      omega
    · obtain ⟨o, ho, hq⟩ := List.mem_flatMap.mp hq
      rw [(ins_len o _ _).2 (Nat.le_refl _) q hq, h2 o ho]

inductive Objs (ex : List (Addr × Obj)) : List Value → List (List Str) → Prop
  | nil : Objs ex [] []
  | cons {a its n os vs oss} : (a, lst its n) ∈ ex → StrsAre its.toList os → Objs ex vs oss → Objs ex (.ref a :: vs) (os :: oss)
theorem Objs.mono {ex ex' : List (Addr × Obj)} {vs oss} (x : Objs ex vs oss) (hs : ∀ p ∈ ex, p ∈ ex') : Objs ex' vs oss := by
  induction x with
  | nil => exact .nil
  | cons hm hi _ ih => exact .cons (hs _ hm) hi ih
theorem Objs.snoc {ex : List (Addr × Obj)} {vs oss a its n os} (x : Objs ex vs oss) (hm : (a, lst its n) ∈ ex) (hi : StrsAre its.toList os) : Objs ex (vs ++ [.ref a]) (oss ++ [os]) := by
  induction x with
  | nil => exact .cons hm hi .nil
  | cons hm' hi' _ ih => exact .cons hm' hi' ih
theorem Objs.len {ex : List (Addr × Obj)} {vs oss} (x : Objs ex vs oss) : vs.length = oss.length := by
  induction x with
  | nil => rfl
  | cons _ _ _ ih => simp [ih]
theorem Objs.at {ex : List (Addr × Obj)} {vs oss} (x : Objs ex vs oss) : ∀ {k : Nat} {v : Value}, vs[k]? = some v → ∃ a its n os, v = .ref a ∧ (a, lst its n) ∈ ex ∧ StrsAre its.toList os ∧ oss[k]? = some os := by
  induction x with
  | nil => intro k v h; simp at h
  | @cons a its n os vs oss hm hi _ ih =>
    intro k v h
    cases k with
    | zero => simp at h; exact ⟨a, its, n, os, h.symm, hm, hi, rfl⟩
    | succ k => simpa using ih (by simpa using h)
theorem strs_take {vs : List Value} {ys : List Str} (h : StrsAre vs ys) : ∀ k, StrsAre (vs.take k) (ys.take k) := by
  induction h with
  | nil => intro k; simp; exact .nil
  | cons y t _ ih =>
    intro k
    cases k with
    | zero => exact .nil
    | succ k => exact .cons y t (ih k)
theorem strs_drop {vs : List Value} {ys : List Str} (h : StrsAre vs ys) : ∀ k, StrsAre (vs.drop k) (ys.drop k) := by
  induction h with
  | nil => intro k; simp; exact .nil
  | cons y t hr ih =>
    intro k
    cases k with
    | zero => exact .cons y t hr
    | succ k => exact ih k
theorem strs_app {vs ws : List Value} {ys zs : List Str} (h : StrsAre vs ys) (h2 : StrsAre ws zs) : StrsAre (vs ++ ws) (ys ++ zs) := by
  induction h with
  | nil => exact h2
  | cons y t _ ih => exact .cons y t ih

section
variable {w : World} {A : Around} {E : Value → Shared → Prop} {h : Heap} {gn : Array GenState} {d : Drawn} {t : Nat} {os : OsState} {g : Heap} {L a : Addr} {i : Nat} {vals : List (Option Value)} {own : List (Addr × Obj)}
  {fa : Nat → Addr} {mg mb : Str → Option Value} {n : Str} {cd : Value} {pos : Pos} {sco : Scope} {env : Env}
theorem St.perm {ns : List Str} {own' : List (Addr × Obj)} (S : St g L ns vals own h) (hp : own'.Perm own) : St g L ns vals own' h where
  isNs := S.isNs
  len := S.len
  keep := S.keep
  gL := S.gL
  isOwn := fun p hm => S.isOwn p (hp.mem_iff.mp hm)
  nd := (hp.map _).nodup_iff.mpr S.nd
theorem keep2 {o1 o2 : Obj} : Keep h ((h.push o1).push o2) := fun b o e => Heap.get?_push_of_some _ (Heap.get?_push_of_some _ e)
theorem o_upto {a : Addr} {items : Array Value} {k : Nat} {tk : Tok} {value up : PySem.Expr} {p : Pos} {Q : Value → Shared → Prop} (hval : ∀ Q E, Q (.ref a) ⟨h, gn, d, t, os⟩ → wpAny (model pg w) A (eval value env) Q E ⟨h, gn, d, t, os⟩)
    (hup : ∀ Q E, Q (.int (k : Int) tk) ⟨h, gn, d, t, os⟩ → wpAny (model pg w) A (eval up env) Q E ⟨h, gn, d, t, os⟩) (hl : h.IsList a items) (hsz : items.size ≤ 1000)
    (c : ∀ h' r, Keep h h' → h.objs.size ≤ r → h'.get? r = some (lst (items.toList.take k).toArray 0) → Q (.ref r) ⟨h', gn, d, t, os⟩) (ht : ∀ o r, letTemporaryGo value o r = pure () := by intro _ _; rfl) :
    wpAny (model pg w) A (eval (.Subscript value (.Slice none (some up) none p) pos) env) Q E ⟨h, gn, d, t, os⟩ := by
  refine wpAny_Subscript_list_slice (hval _ _ (wpAny_pure (hup _ _ ⟨a, items, none, some (k : Int), rfl, hl, le_line (by lia), .none, .int _ _, ?_⟩))) ht
  rw [slicePick_upto']
  refine c _ _ keep2 (Nat.le_succ _) ?_
  have := Heap.get?_push_size (h := h.push { cls := .type "slice", data := .fields #[.none, .int (k : Int) tk, .none] }) (o := lst (items.toList.take k).toArray 0) rfl
  rw [Heap.size_push] at this
  exact this
theorem o_from {a : Addr} {items : Array Value} {k : Nat} {tk : Tok} {value up : PySem.Expr} {p : Pos} {t' : Nat} {Q : Value → Shared → Prop} (hval : ∀ Q E, Q (.ref a) ⟨h, gn, d, t, os⟩ → wpAny (model pg w) A (eval value env) Q E ⟨h, gn, d, t, os⟩)
    (hup : ∀ Q E, (∀ tk t', Q (.int (k : Int) tk) ⟨h, gn, d, t', os⟩) → wpAny (model pg w) A (eval up env) Q E ⟨h, gn, d, t, os⟩) (hl : h.IsList a items) (hsz : items.size ≤ 1000)
    (c : ∀ h' r t', Keep h h' → h.objs.size ≤ r → h'.get? r = some (lst (items.toList.drop k).toArray 0) → Q (.ref r) ⟨h', gn, d, t', os⟩) (ht : ∀ o r, letTemporaryGo value o r = pure () := by intro _ _; rfl) :
    wpAny (model pg w) A (eval (.Subscript value (.Slice (some up) none none p) pos) env) Q E ⟨h, gn, d, t, os⟩ := by
  refine wpAny_Subscript_list_slice (hval _ _ (hup _ _ fun tk t' => wpAny_pure ⟨a, items, some (k : Int), none, rfl, hl, le_line (by lia), .int _ _, .none, ?_⟩)) ht
  rw [slicePick_from']
  refine c _ _ _ keep2 (Nat.le_succ _) ?_
  have := Heap.get?_push_size (h := h.push { cls := .type "slice", data := .fields #[.int (k : Int) tk, .none, .none] }) (o := lst (items.toList.drop k).toArray 0) rfl
  rw [Heap.size_push] at this
  exact this
theorem o_addl {a b : Addr} {its1 its2 : Array Value} {n1 n2 : Nat} {Q : Value → Shared → Prop} (h1 : h.get? a = some (lst its1 n1)) (h2 : h.get? b = some (lst its2 n2)) (hz : its1.size + its2.size ≤ 1000)
    (c : ∀ h' r, Keep h h' → h.objs.size ≤ r → h'.get? r = some (lst (its1 ++ its2) 0) → Q (.ref r) ⟨h', gn, d, t, os⟩) : wpAny (model pg w) A (binaryOp .Add (.ref a) (.ref b)) Q E ⟨h, gn, d, t, os⟩ :=
  P.add_list (s := ⟨h, gn, d, t, os⟩) h1 h2 (c _ _ (fun b o e => Heap.get?_push_of_some _ e) (Nat.le_refl _) (Heap.get?_push_size _ rfl)) (le_line (by lia))
end
end Mine
end
-- part M18
section
set_option maxRecDepth 100000
set_option linter.unusedVariables false
set_option maxHeartbeats 4000000
namespace Mine
open PyProof PySem PySem.Calls PyProof.Rows PySem.W PySem.W.X
section
variable {w : World} {A : Around} {E : Value → Shared → Prop} {h : Heap} {gn : Array GenState} {d : Drawn} {t : Nat} {os : OsState} {g : Heap} {L a : Addr} {i : Nat} {vals : List (Option Value)} {own : List (Addr × Obj)}
  {fa : Nat → Addr} {mg mb : Str → Option Value} {n : Str} {cd : Value} {pos : Pos} {sco : Scope} {env : Env}
theorem isList_of {a : Addr} {its : Array Value} {n : Nat} (h1 : h.get? a = some (lst its n)) : h.IsList a its := ⟨_, h1, rfl, _, rfl⟩
theorem o_len_list {a : Addr} {items : Array Value} {Q : Value → Shared → Prop} (hl : h.IsList a items) (hx : items.size ≤ 100000) (c : ∀ tk t', Q (.int (items.size : Int) tk) ⟨h, gn, d, t', os⟩) :
    wpAny (model pg w) A (call (.builtin "len") [.ref a]) Q E ⟨h, gn, d, t, os⟩ := call_len_list (s := ⟨h, gn, d, t, os⟩) hl (by lia) (c _ _)

theorem orders_spec {R : Result → Shared → Prop} {ax : Addr} {items : Array Value} {ns : List Str} (B : Base fa mg mb h) (hA : A.handled = none) (hroom : A.depth + 5 < recursionLimit)
    (hl : h.IsList ax items) (hns : StrsAre items.toList ns) (hn : ns.length ≤ 4)
    (k : ∀ h' t' P items nn ex, Keep h h' → (∀ p ∈ (P, lst items nn) :: ex, h'.get? p.1 = some p.2) → Objs ex items.toList (ordersU ns) → R (.ok (.ret (.ref P))) ⟨h', gn, d, t', os⟩) :
    codeAny (model pg w) A (.call (.ref (fa 17)) ⟨[.ref ax], []⟩) R ⟨h, gn, d, t, os⟩ := by
  have hlen : items.size = ns.length := by have := strs_len hns; simpa using this
  refine enterC [some (.ref ax), none] B (by decide) (by lia) ⟨by decide, by decide, by decide⟩ (fun _ _ _ => by kernel_rfl) ?_ ?_ (by rfl) fun L cd h₁ t₁ hL₁ S X => ?_
  · intro L x hx
    have : x ∈ (pr 17).args := hx
    rw [show (pr 17).args = [(pr 17).args.head (by decide)] by rfl] at this
    rw [List.mem_singleton.mp this]
    exact .inl (by rfl)
  · intro L cd
    have e : bindL (envOfC (nm 17) (sc 17) L (fa 17) cd).kindOf (((pr 17).args.map (·.arg)).zip [Value.ref ax]) (fun _ => none) = fun y : Str => if y = ("names" : Str) then some (Value.ref ax) else none := by rfl
    have e2 : lc 17 = [("names" : Str), ("orders" : Str)] := by decide +kernel
    rw [e, e2]
    funext y
    unfold slot idx
    by_cases h1 : y = ("names" : Str)
    · rw [if_pos h1, if_pos h1]; rfl
    · rw [if_neg h1, if_neg h1]
      unfold idx idx
      split <;> rfl
  obtain ⟨oc, hoc, S⟩ := S.addCell (c := L + 1) (v := none) (X.cell "name" _ (by rfl)) (by show L + 1 ≠ L; lia) (none_above (by lia)) (by simp)
  clear X
  refine wpAny_execs_cons (wpAny_Assign_Name (List_ (acons (List_ (anil ?_)))))
  refine new_list (le_line (by show 0 ≤ _; lia)) (anil ?_)
  refine new_list (le_line (by show 1 ≤ _; lia)) ?_
  have S₁ := (S.push (lst #[] 0)).push (lst #[.ref h₁.objs.size] 0)
  generalize (h₁.push (lst #[] 0)).objs.size = D at S₁
  generalize h₁.objs.size = D0 at S₁
  refine r_st S₁ v17_orders fun h₂ t₃ S₂ _ => ?_
  refine wpAny_execs_cons (wpAny_For ?_)
  refine r_loc S₂ v17_names rfl ?_
  have hl₂ : h₂.IsList ax items := hl.at fun o e => S₂.keep _ _ e
  have hax : h.get? ax ≠ none := by obtain ⟨o, ho, _⟩ := hl; rw [ho]; simp
  refine for_listA (sco := sc 17) (A := A.deeper (envOfC (nm 17) (sc 17) L (fa 17) cd)) hA S₂ hl₂ (fun e => hax (e ▸ S₂.gL)) (fun p hp e => hax (e ▸ (S₂.isOwn p hp).2.2))
    (fun k vals own => ∃ P its nn ex o v, vals = [some (.ref ax), some (.ref P)] ∧ own = (P, lst its nn) :: (ex ++ [(L + 1, o)]) ∧ o.data = .cell v ∧ Objs ex its.toList (ordersU (ns.take k))) ?_ ?_ ?_
  · rintro k v vals own g₂ h₄ t₁₀ gn₁ hv hle ⟨P, its, nn, ex, o, vc, rfl, rfl, ho, hI⟩ hg₂ rfl S₄
    obtain ⟨x, tx, rfl, hx⟩ := strs_at hns (v := v) (by simpa using hv)
    refine wpAny_assign_Name (r_stC (pre := (P, lst its nn) :: ex) (post := []) S₄ ho (by rfl) (by rfl) (by rfl) fun h₅ o₅ ho₅ S₅ => ?_)
    have hk : k < ns.length := (List.getElem?_eq_some_iff.mp hx).1
    have hol := orders_len ns k (by lia) (by lia)
    have hk5 : 5 ^ k ≤ 625 := Nat.pow_le_pow_right (n := 5) (by lia) (by lia : k ≤ 4)
    have hIl := hI.len
    refine wpAny_execs_cons (comp2 (cl := [("name", L + 1)]) (sco := sc 17) S₅ hA (by rfl) (by rfl) (by decide) (by rfl) (by decide) mkL (by rfl) v17_orders
      (fun Q E hq => r_loc S₅ v17_orders rfl hq) (isList_of (S₅.isOwn _ (.head _)).1) (fun j acc ex' => Objs ex' acc.toList (((ordersU (ns.take k)).take j).flatMap fun q => insU q x (q.length + 1))) .nil ?_ ?_)
    · rintro j v oz o' C D' acc nn' ex' g₃ h₆ t₁₁ hv hJ hk₃ hCD S₆
      have hcell : g₃.IsCell (L + 1) (some (.str x tx)) := ⟨o₅, hk₃ _ _ (S₅.isOwn (L + 1, o₅) (by simp)).1, ho₅⟩
      obtain ⟨qa, its1, n1, q, rfl, hm, hq, hqk⟩ := hI.at (v := v) (by simpa using hv)
      have hqg : g₃.get? qa = some (lst its1 n1) := hk₃ _ _ (S₅.isOwn (qa, lst its1 n1) (by simp [hm])).1
      have hql := hol.2 q (List.mem_of_getElem? hqk)
      have hsz : its1.size = k := by have := strs_len hq; rw [hql] at this; simpa using this
      have B₃ := (B.keeps hg₂).keeps fun b o e => hk₃ b o (S₅.keep b o e)
      refine Call_ (r_bt S₆ B₃ (by exact ⟨by rfl, by rfl, by rfl⟩) b_range ?_)
      refine cw_type (acons ?_)
      refine wpAny_BinOp (Call_ (r_bt S₆ B₃ (by exact ⟨by rfl, by rfl, by rfl⟩) b_len ?_))
      refine cw_bt (acons (r_loc S₆ (k := 1) mkL rfl (anil ?_)))
      refine o_len_list (isList_of (S₆.keep _ _ hqg)) (by lia) fun u₁ t₁₂ => ?_
      refine c_int fun t₁₃ => o_add fun u₂ t₁₄ => anil ?_
      refine o_range1 fun h₇ r u v t₁₅ hk₇ hz₇ hr₇ hR => ?_
      rw [hsz] at hR
      refine wpAny_pyIter_range (s := ⟨h₇, gn, d, t₁₅, os⟩) hR (small_one (by lia) (by lia) (by lia) (by lia)) ?_
      have hrs : Builtin.Range.rangeSize 0 ((k : Int) + 1) 1 = ((k + 1 : Nat) : Int) := by rw [rangeSize_nat]; lia
      have W := Walks.range (prog := pg) (w := w) (A := A.deeper (envOfC (nm 17) (sc 17) L (fa 17) cd)) hA h₇.objs.size 0 1 (k + 1)
      have hst : IsRangeIter (h₇.push { cls := .type "range_iterator", data := .fields #[rawInt 0, rawInt (Builtin.Range.rangeSize 0 ((k : Int) + 1) 1), rawInt 1] }) h₇.objs.size (0 + ((0 : Nat) : Int) * 1) (((k + 1 : Nat) : Int) - ((0 : Nat) : Int)) 1 := by
        rw [hrs]
        have e1 : (0 : Int) + ((0 : Nat) : Int) * 1 = 0 := by simp
        have e2 : (((k + 1 : Nat) : Int) - ((0 : Nat) : Int)) = ((k + 1 : Nat) : Int) := by simp
        rw [e1, e2]
        exact Heap.get?_push_size _ rfl
      generalize ({ cls := .type "range_iterator", data := .fields #[rawInt 0, rawInt (Builtin.Range.rangeSize 0 ((k : Int) + 1) 1), rawInt 1] } : Obj) = ob at hst ⊢
      have S₇ := S₆.keeps hk₇
      have S₈ : St g₃ C _ [oz, some (.ref qa), o'] ((D', lst acc nn') :: ex') (h₇.push ob) := S₇.keeps fun b o e => Heap.get?_push_of_some _ e
      refine (fun loop => compStart1 loop (W.self 0 ⟨h₇.push ob, gn, d, t₁₅, os⟩ _ _ hst loop)) ?_
      refine inner_walk (vals := [oz, some (.ref qa), o']) (kx := 2) (o₀ := o') (cs := relabel _ (envOfC (nm 17) (sc 17) L (fa 17) cd)) W mkL (fun i acc ex => Objs ex acc.toList ((((ordersU (ns.take k)).take j).flatMap fun q => insU q x (q.length + 1)) ++ insU q x i)) ?_ ?_ ?_ S₈ hst ?_ ?_ ?_ ?_ ?_ ⟨rfl, rfl, rfl, rfl⟩
      · rintro i v acc nn ex₂ g₄ h₈ t₁₆ hi ⟨tk, rfl⟩ hJ hk₄ S₈
        refine tests0 ?_
        rw [if_pos rfl]
        have hq4 : h₈.get? qa = some (lst its1 n1) := S₈.keep _ _ (hk₄ _ _ hqg)
        have ei : (0 + (i : Int) * 1) = (i : Int) := by lia
        have S₀ := S₈
        rw [ei] at S₈
        have hz := hJ.len
        refine wpAny_BinOp (wpAny_BinOp (o_upto (k := i) (tk := tk) (fun Q E hq => r_loc S₈ (k := 1) mkL rfl hq) (fun Q E hq => r_loc S₈ (k := 2) mkL rfl hq) (isList_of hq4) (by lia) fun h₉ r₁ hk₉ hz₉ hr₉ => ?_))
        refine List_ (acons (r_ldG (S₈.keeps hk₉) (hcell.keeps hk₄) (by rfl) (anil ?_)))
        refine new_list (le_line (by show 1 ≤ _; lia)) ?_
        have hka : Keep h₉ (h₉.push (lst #[.str x tx] 0)) := fun b o e => Heap.get?_push_of_some _ e
        refine o_addl (hka _ _ hr₉) (Heap.get?_push_size _ rfl) ?_ fun h₁₀ r₂ hk₁₀ hz₁₀ hr₁₀ => ?_
        · show (its1.toList.take i).toArray.size + 1 ≤ _
          rw [List.size_toArray, List.length_take, Array.length_toList]
          lia
        have hkb : Keep h₈ h₁₀ := fun b o e => hk₁₀ b o (hka b o (hk₉ b o e))
        have S₉ := S₈.keeps hkb
        refine o_from (k := i) (tk := tk) (t' := t₁₆) (fun Q E hq => r_loc S₉ (k := 1) mkL rfl hq) (fun Q E hq => r_loc S₉ (k := 2) mkL rfl (hq _ _)) (isList_of (hkb _ _ hq4)) (by lia) fun h₁₁ r₃ t₁₇ hk₁₁ hz₁₁ hr₁₁ => ?_
        refine o_addl (hk₁₁ _ _ hr₁₀) hr₁₁ ?_ fun h₁₂ r₄ hk₁₂ hz₁₂ hr₁₂ => ?_
        · have hi' : i < k + 1 := hi
          simp only [Array.size_append, List.size_toArray, List.length_take, List.length_drop, Array.length_toList, List.length_singleton]
          show min i its1.size + 1 + (its1.size - i) ≤ 1000
          lia
        have hkc : Keep h₁₀ h₁₂ := fun b o e => hk₁₂ b o (hk₁₁ b o e)
        have hf : h₈.objs.size ≤ r₄ := by
          refine Nat.le_trans ?_ hz₁₂
          have a1 := Heap.lt_size hr₁₁
          have a2 := Heap.lt_size hr₁₀
          have a3 := Heap.lt_size hr₉
          have a4 : (h₉.push (lst #[.str x tx] 0)).objs.size = h₉.objs.size + 1 := Heap.size_push _ _
          have a5 : (h₉.push (lst #[.str x tx] 0)).objs.size ≤ r₂ := hz₁₀
          exact Nat.le_trans hz₉ (Nat.le_trans (Nat.le_of_lt a3) (Nat.le_trans (a4 ▸ Nat.le_succ _) (Nat.le_trans a5 (Nat.le_trans (Nat.le_of_lt a2) (Nat.le_trans hz₁₁ (Nat.le_of_lt a1))))))
        refine ⟨h₁₂, _, (r₄, _) :: ex₂, rfl, (S₀.adopt (fun b o e => hkc b o (hkb b o e)) hr₁₂ hf).perm (List.Perm.swap _ _ _), ?_, ?_⟩
        · have f1 := flat_len2 (n := 5) (fun q => insU q x (q.length + 1)) ((ordersU (ns.take k)).take j) fun o ho => by
            rw [(ins_len o _ _).1, hol.2 o (List.mem_of_mem_take ho)]; lia
          have f2 : ((ordersU (ns.take k)).take j).length ≤ (ordersU (ns.take k)).length := by rw [List.length_take]; exact Nat.min_le_right _ _
          have f3 := (ins_len q x i).1
          have f4 := hol.1
          have hi' : i < k + 1 := hi
          rw [List.length_append, Array.length_toList] at hz
          refine le_line ?_
          lia
        · rw [Array.toList_push]
          show Objs _ _ (_ ++ (insU q x i ++ [putAt q x i]))
          rw [← List.append_assoc]
          refine (hJ.mono fun p hp => .tail _ hp).snoc (.head _) ?_
          simp only [Array.toList_append]
          exact strs_app (strs_app (strs_take hq i) (.cons _ _ .nil)) (strs_drop hq i)
      · rintro o₂ acc nn ex h₈ t₁₆ hJ S₈
        refine ⟨_, _, acc, nn, ex, _, rfl, S₈, ?_⟩
        rw [take_flat _ hqk, hql]
        exact hJ
      · show Objs _ _ (_ ++ [])
        rw [List.append_nil]; exact hJ
      · simpa using Nat.ne_of_lt S₇.isNs.lt
      · simpa using Nat.ne_of_lt (S₇.own_lt (.head _))
      · intro p hp
        simpa using Nat.ne_of_lt (S₇.own_lt (.tail _ hp))
      · intro k h hh b hb e
        have hh' : IsRangeIter _ _ _ _ _ := hh
        rw [List.mem_singleton.mp hb] at e
        rw [show h.get? _ = some _ from hh'] at e; cases e
      · intro b hb
        rw [List.mem_singleton.mp hb]; exact S₇.fresh
    · intro D' acc nn' ex' h₆ t₁₁ hJ hD' S₆
      refine abs_q fun Q1 hQ1 => ?_
      repeat refine wpAny_execs_nil ?_
      refine hQ1 _ _ (.inl ⟨rfl, _, _, _, _, _, rfl, rfl, S₆.drop (own' := (D', lst acc nn') :: (ex' ++ [(L + 1, o₅)])) ?_, D', acc, nn', ex', o₅, _, rfl, rfl, ho₅, ?_⟩)
      · refine .cons_cons _ (List.Sublist.append (.refl _) (.cons _ ?_))
        exact List.sublist_append_right _ _
      · rw [orders_succ hx]
        have e : its.size = (ordersU (ns.take k)).length := by simpa using hIl
        rw [e, List.take_length] at hJ
        exact hJ
  · rintro vals own h₄ t₁₀ gn₁ ⟨P, its, nn, ex, o, vc, rfl, rfl, ho, hI⟩ hle rfl S₄
    refine wpAny_execs_cons (wpAny_Return_some (r_loc S₄ v17_orders rfl ?_))
    rw [hlen, List.take_length] at hI
    refine k _ _ P its nn ex S₄.keep (fun p hp => (S₄.isOwn p ?_).1) hI
    rcases List.mem_cons.mp hp with rfl | hp
    · exact .head _
    · exact .tail _ (List.mem_append_left _ hp)
  · exact ⟨D, #[.ref D0], 0, [(D0, lst #[] 0)], oc, none, rfl, rfl, hoc, .cons (.head _) .nil .nil⟩
end
end Mine
end
-- part M19
section
set_option maxRecDepth 100000
set_option linter.unusedVariables false
set_option maxHeartbeats 4000000
namespace Mine
open PyProof PySem PySem.Calls PyProof.Rows PySem.W PySem.W.X

noncomputable def leastU (o : List Str) : Nat → Nat
  | 0 => 0
  | j + 1 => if coll (o.getD (1 + j) "") (o.getD (leastU o j) "") = -1 then 1 + j else leastU o j
noncomputable def hungU : Nat → List Str → Str
  | 0, _ => ""
  | f + 1, o => if o.length = 0 then "" else ((("(" : Str) ++ hungU f (o.take (leastU o (o.length - 1)))) ++ (")" : Str)) ++ hungU f (o.drop (leastU o (o.length - 1) + 1))
theorem least_le (o : List Str) : ∀ j, leastU o j ≤ j := by
  intro j
  induction j with
  | zero => exact Nat.le_refl _
  | succ j ih =>
    unfold leastU
    split <;> lia
theorem str_app_len (x y : Str) : (x ++ y).length = x.length + y.length := by
  show (x.cps ++ y.cps).size = _
  rw [Array.size_append]; rfl
theorem hung_len : ∀ f o, (hungU f o).length ≤ 2 * o.length := by
  intro f
  induction f with
  | zero => intro o; exact Nat.zero_le _
  | succ f ih =>
    intro o
    unfold hungU
    split
    · exact Nat.zero_le _
    · rename_i hne
      have hl := least_le o (o.length - 1)
      have h1 := ih (o.take (leastU o (o.length - 1)))
      have h2 := ih (o.drop (leastU o (o.length - 1) + 1))
      rw [List.length_take] at h1
      rw [List.length_drop] at h2
      rw [str_app_len, str_app_len, str_app_len, show ("(" : Str).length = 1 from rfl, show (")" : Str).length = 1 from rfl]
      lia

section
variable {w : World} {A : Around} {E : Value → Shared → Prop} {h : Heap} {gn : Array GenState} {d : Drawn} {t : Nat} {os : OsState} {g : Heap} {L a : Addr} {i : Nat} {vals : List (Option Value)} {own : List (Addr × Obj)}
  {fa : Nat → Addr} {mg mb : Str → Option Value} {n : Str} {cd : Value} {pos : Pos} {sco : Scope} {env : Env}
theorem o_eq_nil {a b : Addr} {items : Array Value} {Q : Value → Shared → Prop} (hl : h.IsList a items) (hb : h.IsList b #[]) (hu : A.units < cLine) (c : Q (.bool (items.size == 0)) ⟨h, gn, d, t, os⟩) :
    wpAny (model pg w) A (compareOp .Eq (.ref a) (.ref b)) Q E ⟨h, gn, d, t, os⟩ := by
  by_cases h0 : items.size = 0
  · have e : items = #[] := Array.eq_empty_of_size_eq_zero h0
    subst e
    exact PySem.SeqAt.eq_listAt (s := ⟨h, gn, d, t, os⟩) (e := fun _ => true) hl hb rfl hu (fun j h1 => absurd h1 (Nat.not_lt_zero _)) c
  · refine PySem.SeqAt.eq_list_lengthsAt (s := ⟨h, gn, d, t, os⟩) hl hb (by simpa using h0) hu ?_
    rw [show (items.size == 0) = false by simpa using h0] at c
    exact c
theorem item_nn {l : Addr} {items : Array Value} {k : Nat} {tk : Tok} {x : Value} {s : Shared} {Q : Value → Shared → Prop} (hl : s.heap.IsList l items) (hk : k < 100000) (hx : items[k]? = some x) (c : Q x s) :
    ItemOn (model pg w) A E (.ref l) (.int (k : Int) tk) Q s := ⟨"list", _, list_getitem_lookup, hl.typeIs, wpAny_getItem_list hl (by lia) (by lia) (by simpa using hx) c⟩
theorem item_last {l : Addr} {items : Array Value} {tk : Tok} {x : Value} {s : Shared} {Q : Value → Shared → Prop} (hl : s.heap.IsList l items) (hz : 0 < items.size) (hx : items[items.size - 1]? = some x) (c : Q x s) :
    ItemOn (model pg w) A E (.ref l) (.int (-1) tk) Q s := ⟨"list", _, list_getitem_lookup, hl.typeIs, wpAny_getItem_list_neg hl (by lia) (by lia) (by lia) (by rw [show ((-1 : Int) + items.size).toNat = items.size - 1 by lia]; exact hx) c⟩
theorem strs_get {vs : List Value} {ys : List Str} (h : StrsAre vs ys) : ∀ {k : Nat}, k < ys.length → ∃ tk, vs[k]? = some (.str (ys.getD k "") tk) := by
  induction h with
  | nil => intro k hk; simp at hk
  | cons y t _ ih =>
    intro k hk
    cases k with
    | zero => exact ⟨t, rfl⟩
    | succ k => simpa using ih (k := k) (by simpa using hk)
theorem o_eq {x y : Int} {t1 t2 : Tok} {s : Shared} {Q : Value → Shared → Prop} (c : Q (.bool (x == y)) s) : wpAny (model pg w) A (compareOp .Eq (.int x t1) (.int y t2)) Q E s := P.eq_int c
theorem ok18 : DefOk 18 := by decide +kernel

theorem hung_spec : ∀ (f : Nat) {w : World} {A : Around} {h : Heap} {gn : Array GenState} {d : Drawn} {t : Nat} {os : OsState} {fa : Nat → Addr} {mg mb : Str → Option Value} {R : Result → Shared → Prop} {ax : Addr} {items : Array Value} {o : List Str}
    (B : Base fa mg mb h) (hA : A.handled = none) (hroom : A.depth + f + 5 < recursionLimit) (hu : A.units + 3 * f + 20 < cLine) (hl : h.IsList ax items) (ho : StrsAre items.toList o) (hf : o.length < f) (hf2 : f ≤ 50)
    (k : ∀ h' t' tk, Keep h h' → R (.ok (.ret (.str (hungU f o) tk))) ⟨h', gn, d, t', os⟩),
    codeAny (model pg w) A (.call (.ref (fa 18)) ⟨[.ref ax], []⟩) R ⟨h, gn, d, t, os⟩ := by
  intro f
  induction f with
  | zero => intros; lia
  | succ f ih =>
    intro w A h gn d t os fa mg mb R ax items o B hA hroom hu hl ho hf hf2 k
    have hsz : items.size = o.length := by have := strs_len ho; simpa using this
    refine enter B (by decide) ok18 (by lia) (fun _ _ _ => by kernel_rfl) fun L cd h₁ t₁ ht₁ hL₁ S => ?_
    refine wpAny_execs_cons (wpAny_If ?_)
    refine wpAny_isTrue_Compare1 (r_loc S v18_order rfl (List_ (anil ?_)))
    refine new_list (le_line (by show 0 ≤ _; lia)) ?_
    have hkp : Keep h₁ (h₁.push (lst #[] 0)) := fun b o e => Heap.get?_push_of_some _ e
    have S₂ := S.keeps hkp
    have hl₂ : ∀ {h'}, Keep h₁ h' → h'.IsList ax items := fun hk => hl.at fun o e => hk _ _ (S.keep _ _ e)
    refine o_eq_nil (hl₂ hkp) (isList_of (Heap.get?_push_size _ rfl)) (by show A.units + 3 < _; lia) (wpAny_truthy_bool ?_)
    by_cases h0 : o.length = 0
    · rw [if_pos (by rw [hsz, h0]; rfl)]
      refine wpAny_execs_cons (wpAny_Return_some (c_str fun t₂ => ?_))
      have e : hungU (f + 1) o = "" := by unfold hungU; rw [if_pos h0]
      rw [e] at k
      exact k _ _ _ S₂.keep
    rw [if_neg (by rw [hsz]; simpa using h0)]
    refine wpAny_execs_nil ?_
    refine wpAny_execs_cons (wpAny_Assign_Name (c_int fun t₂ => r_st S₂ v18_least fun h₃ t₃ S₃ e₃ => ?_))
    refine wpAny_execs_cons (wpAny_For (Call_ (r_bt S₃ B g18_range b_range ?_)))
    refine cw_type (acons (c_int fun t₄ => acons ?_))
    refine Call_ (r_bt S₃ B g18_len b_len ?_)
    refine cw_bt (acons (r_loc S₃ v18_order rfl (anil ?_)))
    refine o_len_list (hl.at fun o e => S₃.keep _ _ e) (by lia) fun u₁ t₅ => anil ?_
    refine o_range2 fun h₄ r v t₆ hk₄ hz₄ hr₄ hR => ?_
    have hrs : Builtin.Range.rangeSize 1 (items.size : Int) 1 = ((o.length - 1 : Nat) : Int) := by rw [rangeSize_nat, hsz]; lia
    refine for_range2 (A := A.deeper (envOf (nm 18) (sc 18) L (fa 18) cd)) hA (S₃.keeps hk₄) hR (small_one (by lia) (by lia) (by lia) (by lia)) hrs v18_k
      (fun j vals own => ∃ tk v2, vals = [some (.ref ax), some (.int (leastU o j : Nat) tk), v2] ∧ own = []) ?_ ?_ ⟨_, _, rfl, rfl⟩
    · intro j tk vals own g₂ h₅ t₇ gn₁ hj hle hpat10 hg₂ heq12 S₅
      refine abs_q fun Q1 hQ1 => ?_
      obtain ⟨tl, v2, rfl, rfl⟩ := hpat10
      subst heq12
      have B₂ := B.keeps hg₂
      have hll := least_le o j
      have hl5 : h₅.IsList ax items := hl.at fun o e => S₅.keep _ _ (hg₂ _ _ e)
      have ek : (1 + (j : Int) * 1) = ((1 + j : Nat) : Int) := by lia
      rw [ek] at S₅
      obtain ⟨tx, hx⟩ := strs_get ho (k := 1 + j) (by lia)
      obtain ⟨ty, hy⟩ := strs_get ho (k := leastU o j) (by lia)
      refine wpAny_execs_cons (wpAny_If ?_)
      refine wpAny_isTrue_Compare1 (Call_ (r_fn S₅ B₂ g18__strcoll (by decide) ?_))
      refine call_fn B₂ (by decide) (acons ?_)
      refine Subscript_Name (r_loc S₅ v18_order rfl (r_loc S₅ v18_k rfl (item_nn (x := .str (o.getD (1 + j) "") tx) hl5 (by lia) (by simpa using hx) (acons ?_))))
      refine Subscript_Name (r_loc S₅ v18_order rfl (r_loc S₅ v18_least rfl (item_nn (x := .str (o.getD (leastU o j) "") ty) hl5 (by lia) (by simpa using hy) (anil ⟨S₅.keep, wpAny_call ?_⟩))))
      refine strcoll_spec (B₂.keeps S₅.keep) (by show A.depth + 1 < _; lia) fun h₆ t₈ tk₂ hk₆ => ?_
      refine wpAny_UnaryOp (c_int fun t₉ => o_neg fun u₃ t₁₀ => o_eq (wpAny_truthy_bool ?_))
      have S₆ := S₅.keeps hk₆
      have e : leastU o (j + 1) = if coll (o.getD (1 + j) "") (o.getD (leastU o j) "") = -1 then 1 + j else leastU o j := rfl
      by_cases hc : coll (o.getD (1 + j) "") (o.getD (leastU o j) "") = -1
      · rw [if_pos (by simpa using hc)]
        rw [if_pos hc] at e
        refine wpAny_execs_cons (wpAny_Assign_Name (r_loc S₆ v18_k rfl (r_st S₆ v18_least fun h₇ t₁₁ S₇ _ => ?_)))
        repeat refine wpAny_execs_nil ?_
        exact hQ1 _ _ (.inl ⟨rfl, _, _, _, _, _, rfl, rfl, S₇, _, _, by rw [e]; rfl, rfl⟩)
      · rw [if_neg (by simpa using hc)]
        rw [if_neg hc] at e
        repeat refine wpAny_execs_nil ?_
        exact hQ1 _ _ (.inl ⟨rfl, _, _, _, _, _, rfl, rfl, S₆, _, _, by rw [e]; rfl, rfl⟩)
    · rintro vals own h₅ t₇ gn₁ ⟨tl, v2, rfl, rfl⟩ hle rfl S₅
      have hll := least_le o (o.length - 1)
      have hl5 : h₅.IsList ax items := hl.at fun o e => S₅.keep _ _ e
      have eh : hungU (f + 1) o = ((("(" : Str) ++ hungU f (o.take (leastU o (o.length - 1)))) ++ (")" : Str)) ++ hungU f (o.drop (leastU o (o.length - 1) + 1)) := by
        show (if o.length = 0 then _ else _) = _
        rw [if_neg h0]
      have len1 := hung_len f (o.take (leastU o (o.length - 1)))
      have len2 := hung_len f (o.drop (leastU o (o.length - 1) + 1))
      rw [List.length_take] at len1
      rw [List.length_drop] at len2
      refine wpAny_execs_cons (wpAny_Return_some (wpAny_BinOp (wpAny_BinOp (wpAny_BinOp (c_str fun t₈ => ?_)))))
      refine Call_ (r_fn S₅ B g18__law_hung (by decide) ?_)
      refine call_fn B (by decide) (acons ?_)
      refine o_upto (k := leastU o (o.length - 1)) (fun Q E hq => r_loc S₅ v18_order rfl hq) (fun Q E hq => r_loc S₅ v18_least rfl hq) hl5 (by lia) fun h₆ r₁ hk₆ hz₆ hr₆ => ?_
      have S₆ := S₅.keeps hk₆
      refine anil ⟨S₆.keep, wpAny_call ?_⟩
      refine ih (B.keeps S₆.keep) hA (by show A.depth + 1 + f + 5 < _; lia) (by show A.units + 3 + 3 * f + 20 < _; lia) (isList_of hr₆) (by simpa using strs_take ho _) (by rw [List.length_take]; lia) (by lia) fun h₇ t₉ tk₇ hk₇ => ?_
      have S₇ := S₆.keeps hk₇
      refine add_strs (le_line (by rw [show (Str.ofString "(").length = 1 from rfl]; lia)) fun tk₈ t₁₀ => c_str fun t₁₁ => ?_
      refine add_strs (le_line (by rw [str_app_len, show (Str.ofString "(").length = 1 from rfl, show (Str.ofString ")").length = 1 from rfl]; lia)) fun tk₉ t₁₂ => ?_
      refine Call_ (r_fn S₇ B g18__law_hung (by decide) ?_)
      refine call_fn B (by decide) (acons ?_)
      have hl7 : h₇.IsList ax items := hl5.at fun o e => hk₇ _ _ (hk₆ _ _ e)
      refine o_from (k := leastU o (o.length - 1) + 1) (tk := 0) (t' := 0) (fun Q E hq => r_loc S₇ v18_order rfl hq) (fun Q E hq => wpAny_BinOp (r_loc S₇ v18_least rfl (c_int fun t₁₃ => o_add fun u t₁₄ => hq _ _))) hl7 (by lia) fun h₈ r₂ t₁₅ hk₈ hz₈ hr₈ => ?_
      have S₈ := S₇.keeps hk₈
      refine anil ⟨S₈.keep, wpAny_call ?_⟩
      refine ih (B.keeps S₈.keep) hA (by show A.depth + 1 + f + 5 < _; lia) (by show A.units + 3 + 3 * f + 20 < _; lia) (isList_of hr₈) (by simpa using strs_drop ho _) (by rw [List.length_drop]; lia) (by lia) fun h₉ t₁₆ tk₉ hk₉ => ?_
      refine add_strs (le_line (by rw [str_app_len, str_app_len, show (Str.ofString "(").length = 1 from rfl, show (Str.ofString ")").length = 1 from rfl]; lia)) fun tk₁₀ t₁₇ => ?_
      rw [eh] at k
      exact k _ _ _ (S₈.keeps hk₉).keep
end
end Mine
end
-- part M20
section
set_option maxRecDepth 100000
set_option linter.unusedVariables false
set_option maxHeartbeats 4000000
namespace Mine
open PyProof PySem PySem.Calls PyProof.Rows PySem.W PySem.W.X

noncomputable def ltS (x y : Str) : Prop := x.cps.toList < y.cps.toList
theorem lt_app1 (c : Nat) : ∀ l : List Nat, l < l ++ [c] := by
  intro l
  induction l with
  | nil => exact List.nil_lt_cons _ _
  | cons a l ih => exact List.cons_lt_cons_iff.mpr (.inr ⟨rfl, ih⟩)
theorem lt_app2 {a b : Nat} (hab : a < b) : ∀ l : List Nat, l ++ [a] < l ++ [b] := by
  intro l
  induction l with
  | nil => exact List.cons_lt_cons_iff.mpr (.inl hab)
  | cons x l ih => exact List.cons_lt_cons_iff.mpr (.inr ⟨rfl, ih⟩)
theorem lt_tr : ∀ {x y z : List Nat}, x < y → y < z → x < z := by
  intro x
  induction x with
  | nil => intro y z h1 h2
           cases z with
           | nil => exact absurd h2 (List.not_lt_nil _)
           | cons c z => exact List.nil_lt_cons _ _
  | cons a x ih =>
    intro y z h1 h2
    cases y with
    | nil => exact absurd h1 (List.not_lt_nil _)
    | cons b y =>
      cases z with
      | nil => exact absurd h2 (List.not_lt_nil _)
      | cons c z =>
        rw [List.cons_lt_cons_iff] at h1 h2 ⊢
        rcases h1 with h1 | ⟨rfl, h1⟩ <;> rcases h2 with h2 | ⟨rfl, h2⟩
        · exact .inl (by lia)
        · exact .inl h1
        · exact .inl h2
        · exact .inr ⟨rfl, ih h1 h2⟩
theorem lt_ir : ∀ {x : List Nat}, ¬ x < x := by
  intro x
  induction x with
  | nil => exact List.not_lt_nil _
  | cons a x ih =>
    rw [List.cons_lt_cons_iff]
    rintro (h | ⟨_, h⟩)
    · lia
    · exact ih h
theorem coll_lt {x y : Str} (h : ltS x y) : coll x y = -1 ∧ coll y x = 1 := by
  have h' : x.cps.toList < y.cps.toList := h
  have hn : ¬ y.cps.toList < x.cps.toList := fun q => lt_ir (lt_tr h' q)
  unfold coll
  rw [decide_eq_true h', decide_eq_false hn]
  exact ⟨rfl, rfl⟩
theorem coll_self (x : Str) : coll x x = 0 := by
  unfold coll
  rw [decide_eq_false lt_ir]; rfl

theorem slice_init (p : Str) (c : Nat) : Txt.slice (p ++ ⟨#[c]⟩) none (some (-1)) = p := by
  have hl : (p ++ ⟨#[c]⟩ : Str).length = p.length + 1 := Str.length_append ..
  have e : Txt.slice (p ++ ⟨#[c]⟩) none (some (-1)) = Txt.slice (p ++ ⟨#[c]⟩) none (some (p.length : Int)) := by
    have e2 : Builtin.Str.strSliceIndices none (some (-1)) 1 (p ++ ⟨#[c]⟩ : Str).length = Builtin.Str.strSliceIndices none (some (p.length : Int)) 1 (p ++ ⟨#[c]⟩ : Str).length := by
      rw [hl]
      unfold Builtin.Str.strSliceIndices
      have e3 : ((-1 : Int) + ((p.length + 1 : Nat) : Int)) = (p.length : Int) := by lia
      have e4 : ¬ ((p.length : Int) < 0) := by lia
      simp only [show ((-1 : Int) < 0) from by decide, if_true, e3, if_neg e4]
    unfold Txt.slice
    rw [e2]
  rw [e]
  have h2 := slice_closes_to (x := p ++ ⟨#[c]⟩) (j := (p.length : Int)) ⟨by lia, by
    have : (p ++ ⟨#[c]⟩ : Str).cps.toList.length = p.length + 1 := by rw [Array.length_toList]; exact hl
    rw [this]; lia⟩
  rw [eq_of_beq h2]
  obtain ⟨a⟩ := p
  show (⟨((((a ++ #[c]).toList.drop 0).take ((a.size : Int) - 0).toNat)).toArray⟩ : Str) = ⟨a⟩
  simp

theorem cps_app1 (z : Str) (c : Nat) : (z ++ (⟨#[c]⟩ : Str)).cps.toList = z.cps.toList ++ [c] := by
  show (z.cps ++ #[c]).toList = _
  simp
theorem lts1 (z : Str) (c : Nat) : ltS z (z ++ ⟨#[c]⟩) := by
  unfold ltS; rw [cps_app1]; exact lt_app1 c _
theorem lts2 (z : Str) {a b : Nat} (hab : a < b) : ltS (z ++ ⟨#[a]⟩) (z ++ ⟨#[b]⟩) := by
  unfold ltS; rw [cps_app1, cps_app1]; exact lt_app2 hab _
theorem char_last (p : Str) (c : Nat) : (Txt.charAt (p ++ ⟨#[c]⟩) (-1)).isSome = true := by
  have hn : (p ++ ⟨#[c]⟩ : Str).length = p.length + 1 := Str.length_append ..
  have hc : (p ++ ⟨#[c]⟩ : Str).cps[p.length]? = some c := by
    show (p.cps ++ #[c])[p.cps.size]? = _
    simp
  unfold Txt.charAt
  rw [hn, seqIndex?_neg_one (by lia)]
  show ((p ++ ⟨#[c]⟩ : Str).cps[p.length + 1 - 1]?).isSome = true
  rw [Nat.add_sub_cancel, hc]; rfl
inductive LastIs (ys : List Str) (b : Nat) (m : Nat) : Prop
  | mk (pre : List Str) (p : Str) (c : Nat) : ys = pre ++ [p ++ ⟨#[c]⟩] → c ≤ b → p.length ≤ m → LastIs ys b m
theorem rise_snoc {ys : List Str} {y z : Str} {pre : List Str} (he : ys = pre ++ [z]) (hp : ys.Pairwise ltS) (hz : ltS z y) : (ys ++ [y]).Pairwise ltS := by
  rw [List.pairwise_append]
  refine ⟨hp, List.pairwise_singleton _ _, fun a ha b hb => ?_⟩
  rw [List.mem_singleton.mp hb]
  rw [he] at ha hp
  rcases List.mem_append.mp ha with h | h
  · rw [List.pairwise_append] at hp
    exact lt_tr (hp.2.2 a h z (.head _)) hz
  · rw [List.mem_singleton.mp h]; exact hz

section
variable {w : World} {A : Around} {E : Value → Shared → Prop} {h : Heap} {gn : Array GenState} {d : Drawn} {t : Nat} {os : OsState} {g : Heap} {L a : Addr} {i : Nat} {vals : List (Option Value)} {own : List (Addr × Obj)}
  {fa : Nat → Addr} {mg mb : Str → Option Value} {n : Str} {cd : Value} {pos : Pos} {sco : Scope} {env : Env}
theorem ints_get {vs : List Value} {ns : List Int} (h : IntsAre vs ns) : ∀ {k : Nat}, k < ns.length → ∃ tk, vs[k]? = some (.int (ns.getD k 0) tk) := by
  induction h with
  | nil => intro k hk; simp at hk
  | cons y t _ ih =>
    intro k hk
    cases k with
    | zero => exact ⟨t, rfl⟩
    | succ k => simpa using ih (k := k) (by simpa using hk)
theorem ok16 : DefOk 16 := by decide +kernel
theorem ok14 : DefOk 14 := by decide +kernel
theorem strxfrm_spec {R : Result → Shared → Prop} {v : Value} (B : Base fa mg mb h) (hroom : A.depth < recursionLimit)
    (c : ∀ h' t', Keep h h' → R (.ok (.ret v)) ⟨h', gn, d, t', os⟩) : codeAny (model pg w) A (.call (.ref (fa 14)) ⟨[v], []⟩) R ⟨h, gn, d, t, os⟩ := by
  refine enter B (by decide) ok14 hroom (fun _ _ _ => by kernel_rfl) fun L cd h' t' ht' hL' S => ?_
  exact wpAny_execs_cons (wpAny_Return_some (r_loc S v14_s rfl (c _ _ S.keep)))

theorem names_spec {R : Result → Shared → Prop} {ax : Addr} {items : Array Value} {ns : List Int} {c : Nat} {tc : Tok} (B : Base fa mg mb h) (hA : A.handled = none) (hroom : A.depth + 5 < recursionLimit)
    (hl : h.IsList ax items) (hi : IntsAre items.toList ns) (hn : ns.length = 6) (hc : 2 ≤ c ∧ c ≤ 4)
    (k : ∀ h' t' P its nn ys, Keep h h' → h.objs.size ≤ P → h'.get? P = some (lst its nn) → StrsAre its.toList ys → ys.length = c → ys.Pairwise ltS → R (.ok (.ret (.ref P))) ⟨h', gn, d, t', os⟩) :
    codeAny (model pg w) A (.call (.ref (fa 16)) ⟨[.ref ax, .int (c : Int) tc], []⟩) R ⟨h, gn, d, t, os⟩ := by
  refine enter B (by decide) ok16 (by lia) (fun _ _ _ => by kernel_rfl) fun L cd h₁ t₁ ht₁ hL₁ S => ?_
  have hl1 : h₁.IsList ax items := hl.at fun o e => S.keep _ _ e
  obtain ⟨u1, hu1⟩ := ints_get hi (k := 1) (by lia)
  refine wpAny_execs_cons (wpAny_Assign_Name (List_ (acons ?_)))
  refine Call_ (r_bt S B g16_chr b_chr (cw_bt (acons ?_)))
  refine wpAny_BinOp (c_int fun t₂ => wpAny_BinOp ?_)
  refine Subscript_Constant (r_loc S v16_sums rfl (c_int fun t₃ => item_nn (k := 1) (x := .int (ns.getD 1 0) u1) hl1 (by lia) (by simpa using hu1) ?_))
  refine c_int fun t₄ => o_mod (by decide) fun u₂ t₅ => o_add fun u₃ t₆ => anil ?_
  have m1 := Int.fmod_nonneg_of_pos (ns.getD 1 0) (show (0 : Int) < 20 by decide)
  have m2 := Int.fmod_lt_of_pos (ns.getD 1 0) (show (0 : Int) < 20 by decide)
  generalize (ns.getD 1 0).fmod 20 = r0 at m1 m2
  refine o_chr (by lia) (by lia) fun u₄ t₇ => anil ?_
  refine new_list (le_line (by show 1 ≤ _; lia)) ?_
  refine r_st (S.push (lst #[.str ⟨#[(97 + r0).toNat]⟩ u₄] 0)) v16_names fun h₂ t₈ S₂ _ => ?_
  have hD : h.objs.size ≤ h₁.objs.size := Nat.le_trans hL₁ (Nat.le_of_lt S.isNs.lt)
  generalize h₁.objs.size = D at S₂ hD
  refine wpAny_execs_cons (wpAny_For (Call_ (r_bt S₂ B g16_range b_range ?_)))
  refine cw_type (acons (c_int fun t₉ => acons ?_))
  refine wpAny_BinOp (r_loc S₂ v16_count rfl (c_int fun t₁₀ => o_add fun u₅ t₁₁ => anil ?_))
  refine o_range2 fun h₃ r v t₁₂ hk₃ hz₃ hr₃ hR => ?_
  have hrs : Builtin.Range.rangeSize 2 ((c : Int) + 1) 1 = ((c - 1 : Nat) : Int) := by rw [rangeSize_nat]; lia
  refine for_range2 (A := A.deeper (envOf (nm 16) (sc 16) L (fa 16) cd)) hA (S₂.keeps hk₃) hR (small_one (by lia) (by lia) (by lia) (by lia)) hrs v16_k
      (fun j vals own => ∃ its nn ys v3 v4 v5, vals = [some (.ref ax), some (.int (c : Int) tc), some (.ref D), v3, v4, v5] ∧ own = [(D, lst its nn)] ∧ StrsAre its.toList ys ∧ ys.length = j + 1 ∧ ys.Pairwise ltS ∧ LastIs ys (122 + 10 * j) j) ?_ ?_ ?_
  · intro j tk vals own g₂ h₅ t₁₃ gn₁ hj hle hpat10 hg₂ heq12 S₅
    refine abs_q fun Q1 hQ1 => ?_
    obtain ⟨its, nn, ys, v3, v4, v5, rfl, rfl, hys, hyl, hp, ⟨pre, p, ch, rfl, hch, hpl⟩⟩ := hpat10
    subst heq12
    have hits : its.size = j + 1 := by have := strs_len hys; rw [hyl] at this; simpa using this
    have B₂ := B.keeps hg₂
    have ek : (2 + (j : Int) * 1) = ((2 + j : Nat) : Int) := by lia
    rw [ek] at S₅
    obtain ⟨uk, huk⟩ := ints_get hi (k := 2 + j) (by lia)
    refine wpAny_execs_cons (wpAny_Assign_Name (wpAny_BinOp ?_))
    refine Subscript_Name (r_loc S₅ v16_sums rfl (r_loc S₅ v16_k rfl (item_nn (x := .int (ns.getD (2 + j) 0) uk) (hl.at fun o e => S₅.keep _ _ (hg₂ _ _ e)) (by lia) (by simpa using huk) ?_)))
    refine r_loc S₅ v16_k rfl (o_add fun u₆ t₁₄ => ?_)
    generalize ns.getD (2 + j) 0 + ((2 + j : Nat) : Int) = cell
    refine r_st S₅ v16_cell fun h₆ t₁₅ S₆ _ => ?_
    obtain ⟨ul, hul⟩ : ∃ tk, its[its.size - 1]? = some (.str (p ++ ⟨#[ch]⟩) tk) := by
      obtain ⟨tk, e⟩ := strs_get hys (k := j) (by lia)
      have e2 : (pre ++ [p ++ (⟨#[ch]⟩ : Str)]).getD j "" = p ++ ⟨#[ch]⟩ := by
        have : pre.length = j := by simpa using hyl
        simp [List.getD, this.symm]
      rw [e2] at e
      exact ⟨tk, by rw [hits]; simpa using e⟩
    refine wpAny_execs_cons (wpAny_Assign_Name ?_)
    refine Subscript_UnaryOp (r_loc S₆ v16_names rfl (wpAny_UnaryOp (c_int fun t₁₆ => o_neg fun u₇ t₁₇ => ?_)))
    refine item_last (x := .str (p ++ ⟨#[ch]⟩) ul) (isList_of (S₆.isOwn _ (.head _)).1) (by lia) hul ?_
    refine r_st S₆ v16_last fun h₇ t₁₈ S₇ _ => ?_
    refine wpAny_execs_cons (wpAny_If (wpAny_isTrue_Compare1 ?_))
    refine wpAny_BinOp (r_loc S₇ v16_cell rfl (c_int fun t₁₉ => o_mod (by decide) fun u₈ t₂₀ => c_int fun t₂₁ => o_eq (wpAny_truthy_bool ?_)))
    by_cases hodd : cell.fmod 2 = 1
    · rw [if_pos (by simpa using hodd)]
      refine wpAny_execs_cons (wpAny_Expr (MethodCall_ (r_loc S₇ v16_names rfl (gm_append (pre := []) S₇ (cw_meth (acons ?_))))))
      refine wpAny_BinOp (r_loc S₇ v16_last rfl (Call_ (r_bt S₇ B₂ g16_chr b_chr (cw_bt (acons ?_)))))
      refine wpAny_BinOp (c_int fun t₂₂ => wpAny_BinOp (wpAny_BinOp ?_))
      refine r_loc S₇ v16_cell rfl (c_int fun t₂₃ => o_fdiv (by decide) (PyProof.noPylong_small (by decide)) fun u₉ t₂₄ => c_int fun t₂₅ => o_mod (by decide) fun u₁₀ t₂₆ => o_add fun u₁₁ t₂₇ => anil ?_)
      have q1 := Int.fmod_nonneg_of_pos (cell.fdiv 2) (show (0 : Int) < 90 by decide)
      have q2 := Int.fmod_lt_of_pos (cell.fdiv 2) (show (0 : Int) < 90 by decide)
      generalize (cell.fdiv 2).fmod 90 = r1 at q1 q2
      refine o_chr (by lia) (by lia) fun u₁₂ t₂₈ => ?_
      refine add_strs (le_line ?_) fun u₁₃ t₂₉ => anil ?_
      · rw [str_app_len]; show p.length + 1 + 1 ≤ _; lia
      refine do_append (pre := []) S₇ (le_line (by lia)) fun h₈ S₈ => ?_
      repeat refine wpAny_execs_nil ?_
      refine hQ1 _ _ (.inl ⟨rfl, _, _, _, _, _, rfl, rfl, S₈, _, _, (pre ++ [p ++ (⟨#[ch]⟩ : Str)]) ++ [(p ++ (⟨#[ch]⟩ : Str)) ++ (⟨#[(33 + r1).toNat]⟩ : Str)], _, _, _, rfl, rfl, ?_, ?_, rise_snoc rfl hp (lts1 _ _), ⟨_, _, _, rfl, by lia, ?_⟩⟩)
      · rw [Array.toList_push]; exact strs_snoc hys
      · rw [List.length_append, hyl]; rfl
      · rw [str_app_len]; show p.length + 1 ≤ _; lia
    · rw [if_neg (by simpa using hodd)]
      refine wpAny_execs_cons (wpAny_Expr (MethodCall_ (r_loc S₇ v16_names rfl (gm_append (pre := []) S₇ (cw_meth (acons ?_))))))
      refine wpAny_BinOp ?_
      refine wpAny_Subscript_str_slice (r_loc S₇ v16_last rfl (wpAny_pure ?_))
      refine wpAny_UnaryOp (c_int fun t₂₂ => o_neg fun u₉ t₂₃ => ?_)
      refine ⟨p ++ ⟨#[ch]⟩, ul, none, some (-1, u₉), rfl, rfl, rfl, made_slice (le_line (by rw [str_app_len]; show p.length + 1 ≤ _; lia)) fun tk₁ t₂₄ => ?_⟩
      have S₈ := (S₇.push { cls := .type "slice", data := .fields #[.none, .int (-1) u₉, .none] }).drop (List.sublist_cons_self _ _)
      show wpAny _ _ _ (fun v s => wpAny _ _ (binaryOp _ (.str (Txt.slice (p ++ ⟨#[ch]⟩) none (some (-1))) tk₁) v) _ _ s) _ _
      rw [slice_init]
      refine Call_ (r_bt S₈ B₂ g16_chr b_chr (cw_bt (acons ?_)))
      refine wpAny_BinOp (wpAny_BinOp ?_)
      refine Call_ (r_bt S₈ B₂ g16_ord b_ord (cw_bt (acons ?_)))
      refine Subscript_UnaryOp (r_loc S₈ v16_last rfl (wpAny_UnaryOp (c_int fun t₂₅ => o_neg fun u₁₀ t₂₆ => ?_)))
      refine SB.item (by decide) ?_ ?_
      · exact char_last p ch
      show wpAny _ _ _ _ _ _
      rw [show Txt.item (p ++ ⟨#[ch]⟩) (-1) = ⟨#[ch]⟩ from item_last_right1 p ch]
      refine anil (o_ord fun u₁₁ t₂₇ => c_int fun t₂₈ => o_add fun u₁₂ t₂₉ => ?_)
      refine wpAny_BinOp (wpAny_BinOp ?_)
      refine r_loc S₈ v16_cell rfl (c_int fun t₃₀ => o_fdiv (by decide) (PyProof.noPylong_small (by decide)) fun u₁₃ t₃₁ => c_int fun t₃₂ => o_mod (by decide) fun u₁₄ t₃₃ => o_add fun u₁₅ t₃₄ => anil ?_)
      have q1 := Int.fmod_nonneg_of_pos (cell.fdiv 2) (show (0 : Int) < 9 by decide)
      have q2 := Int.fmod_lt_of_pos (cell.fdiv 2) (show (0 : Int) < 9 by decide)
      generalize (cell.fdiv 2).fmod 9 = r1 at q1 q2
      refine o_chr (by lia) (by lia) fun u₁₆ t₃₅ => ?_
      refine add_strs (le_line ?_) fun u₁₇ t₃₆ => anil ?_
      · show p.length + 1 ≤ _; lia
      refine do_append (pre := []) S₈ (le_line (by lia)) fun h₈ S₉ => ?_
      repeat refine wpAny_execs_nil ?_
      refine hQ1 _ _ (.inl ⟨rfl, _, _, _, _, _, rfl, rfl, S₉, _, _, (pre ++ [p ++ (⟨#[ch]⟩ : Str)]) ++ [p ++ (⟨#[((ch : Int) + 1 + r1).toNat]⟩ : Str)], _, _, _, rfl, rfl, ?_, ?_, rise_snoc rfl hp (lts2 _ (by lia)), ⟨_, _, _, rfl, by lia, by lia⟩⟩)
      · rw [Array.toList_push]; exact strs_snoc hys
      · rw [List.length_append, hyl]; rfl
  · rintro vals own h₅ t₁₃ gn₁ ⟨its, nn, ys, v3, v4, v5, rfl, rfl, hys, hyl, hp, _⟩ hle rfl S₅
    refine wpAny_execs_cons (wpAny_Return_some (r_loc S₅ v16_names rfl ?_))
    exact k _ _ D its nn ys S₅.keep hD (S₅.isOwn _ (.head _)).1 hys (by lia) hp
  · exact ⟨_, _, [⟨#[(97 + r0).toNat]⟩], _, _, _, rfl, rfl, .cons _ _ .nil, rfl, List.pairwise_singleton _ _, ⟨[], "", (97 + r0).toNat, rfl, by lia, Nat.le_refl _⟩⟩
end
end Mine
end
-- part M21
section
set_option maxRecDepth 100000
set_option linter.unusedVariables false
set_option maxHeartbeats 4000000
namespace Mine
open PyProof PySem PySem.Calls PyProof.Rows PySem.W PySem.W.X

structure Ow (g : Heap) (own : List (Addr × Obj)) (h : Heap) : Prop where
  keep : Keep g h
  isOwn : ∀ p ∈ own, h.get? p.1 = some p.2 ∧ g.get? p.1 = none
  nd : (own.map (·.1)).Nodup

section
variable {w : World} {A : Around} {E : Value → Shared → Prop} {h h' : Heap} {gn : Array GenState} {d : Drawn} {t : Nat} {os : OsState} {g : Heap} {L a : Addr} {i : Nat} {vals : List (Option Value)} {own : List (Addr × Obj)}
  {fa : Nat → Addr} {mg mb : Str → Option Value} {n : Str} {cd : Value} {pos : Pos} {sco : Scope} {env : Env} {ns : List Str}
theorem St.toOw (S : St g L ns vals own h) : Ow g own h := ⟨S.keep, fun p hp => ⟨(S.isOwn p hp).1, (S.isOwn p hp).2.2⟩, S.nd⟩
theorem Ow.perm {own' : List (Addr × Obj)} (O : Ow g own h) (hp : own'.Perm own) : Ow g own' h :=
  ⟨O.keep, fun p hm => O.isOwn p (hp.mem_iff.mp hm), (hp.map _).nodup_iff.mpr O.nd⟩
theorem St.ow (S : St g L ns vals own h) : ∃ oL, Ow g (own ++ [(L, oL)]) h ∧ ∀ own' h', Ow g (own' ++ [(L, oL)]) h' → St g L ns vals own' h' := by
  obtain ⟨oL, es, ep, hL, hr⟩ := id S.isNs
  refine ⟨oL, ⟨S.keep, fun p hp => ?_, ?_⟩, fun own' h' O => ⟨S.isNs.at' fun o e => ?_, S.len, O.keep, S.gL, fun p hp => ?_, ?_⟩⟩
  · rcases List.mem_append.mp hp with hp | hp
    · exact ⟨(S.isOwn p hp).1, (S.isOwn p hp).2.2⟩
    · rw [List.mem_singleton.mp hp]; exact ⟨hL, S.gL⟩
  · rw [List.map_append, List.nodup_append]
    refine ⟨S.nd, by simp, fun x hx y hy e => ?_⟩
    obtain ⟨p, hp, rfl⟩ := List.mem_map.mp hx
    have : y = L := by simpa using hy
    exact (S.isOwn p hp).2.1 (e.trans this)
  · rw [hL] at e
    rw [(O.isOwn (L, oL) (by simp)).1, Option.some.inj e]
  · refine ⟨(O.isOwn p (List.mem_append_left _ hp)).1, fun e => ?_, (O.isOwn p (List.mem_append_left _ hp)).2⟩
    have := O.nd
    rw [List.map_append, List.nodup_append] at this
    exact this.2.2 p.1 (List.mem_map.mpr ⟨p, hp, rfl⟩) L (by simp) e
  · have := O.nd
    rw [List.map_append, List.nodup_append] at this
    exact this.1
theorem Ow.st (O : Ow g own h) (S : St h L ns vals [] h') : St g L ns vals own h' where
  isNs := S.isNs
  len := S.len
  keep := fun b o e => S.keep b o (O.keep b o e)
  gL := by
    cases hq : g.get? L with
    | none => rfl
    | some o => have := S.gL; rw [O.keep _ _ hq] at this; cases this
  isOwn := fun p hp => ⟨S.keep _ _ (O.isOwn p hp).1, (fun e => by have := S.gL; rw [← e, (O.isOwn p hp).1] at this; cases this), (O.isOwn p hp).2⟩
  nd := O.nd
theorem St.add {b : Addr} {o : Obj} (S : St g L ns vals own h) (hb : h.get? b = some o) (hbL : b ≠ L) (hg : g.get? b = none) (hn : ∀ p ∈ own, p.1 ≠ b) : St g L ns vals ((b, o) :: own) h := by
  refine ⟨S.isNs, S.len, S.keep, S.gL, fun p hp => ?_, ?_⟩
  · rcases List.mem_cons.mp hp with rfl | hp
    · exact ⟨hb, hbL, hg⟩
    · exact S.isOwn p hp
  · rw [List.map_cons, List.nodup_cons]
    refine ⟨fun hm => ?_, S.nd⟩
    obtain ⟨p, hp, e⟩ := List.mem_map.mp hm
    exact hn p hp e

/-- the table of inner code objects of a def: still empty, or with its one entry -/
noncomputable def TabO (P : Addr) (pos : Pos) (qual : Str) (τ : List (Addr × Obj)) : Prop :=
  τ = [(P, tabObj #[])] ∨ ∃ c' oc vs t, τ = [(P, tabObj #[rawInt pos.line, rawInt pos.col, .ref c']), (c', oc)] ∧ oc.data = .fields vs ∧ vs[1]? = some (.str qual t)

theorem make_fn {τ rest : List (Addr × Obj)} {P c : Addr} {name qual : Str} {params : Arguments} {body : List Stmt} {scope : Scope} {clos : List (Str × Addr)} {fl : Nat} {Q : Value → Shared → Prop}
    (S : St g L ns vals (τ ++ rest) h) (hT : TabO P pos qual τ) (C : CodeHd g c P) (BA : g.BuiltinsAt mg P) (G : g.Ns mainGlobals mg) (hcl : closureFor scope env = pure clos) (hge : env.globals = mainGlobals) (hcode : env.code = .ref c)
    (k : ∀ f fo cdv ct doc pm h' t' τ', St g L ns vals ((f, fo) :: (τ' ++ rest)) h' → fo.data = .func (fnX name qual params body scope clos .none .none doc pm none cdv ct) → TabO P pos qual τ' → (∃ c' oc vs t, cdv = .ref c' ∧ (c', oc) ∈ τ' ∧ oc.data = .fields vs ∧ vs[1]? = some (.str qual t)) →
      Q (.ref f) ⟨h', gn, d, t', os⟩) :
    wpAny (model pg w) A (makeFunction name qual params (.stmts body) scope env [] [] [] pos fl) Q E ⟨h, gn, d, t, os⟩ := by
  rcases hT with rfl | ⟨c', oc, vs, tk, rfl, hoc, hvs⟩
  · have hP := S.isOwn (P, tabObj #[]) (by simp)
    have hgP : mainGlobals ≠ P := fun q => by
      obtain ⟨o, es, ep, e, hd, _⟩ := G
      have := hP.2.2
      rw [← q, e] at this; cases this
    refine makeFunction_K (s := ⟨h, gn, d, t, os⟩) hcl hge (G.keeps S.keep) hcode (C.keeps S.keep) hP.1 trivial rfl hgP (BA.keeps S.keep) fun c' ctv doc h' tk hx hc1 hc2 hcr hP' => ?_
    replace hx : Heap.ExtBut P h h' := hx
    replace hc1 : h.objs.size ≤ c' := hc1
    have S₁ : St g L ns vals rest h := S.drop (List.sublist_append_right _ _)
    have hnd := S.nd
    rw [List.map_append, List.nodup_append] at hnd
    have hrP : ∀ p ∈ rest, p.1 ≠ P := fun p hp e => hnd.2.2 P (by simp) p.1 (List.mem_map.mpr ⟨p, hp, rfl⟩) e.symm
    have S₂ := S₁.moved (wr := [P]) (fun b o hb e => hx b o (fun q => hb (by rw [q]; exact .head _)) e) (fun hm => hP.2.1 (List.mem_singleton.mp hm).symm) (fun b hb => by rw [List.mem_singleton.mp hb]; exact hP.2.2) fun p hp hm => hrP p hp (List.mem_singleton.mp hm)
    obtain ⟨c₂, oc, vs, tt, e2, hoc, hof, hov⟩ := id hcr
    cases e2
    have hgc : g.get? c' = none := by
      cases hq : g.get? c' with
      | none => rfl
      | some o => exact absurd (Heap.lt_size (S.keep _ _ hq)) (Nat.not_lt.mpr hc1)
    have S₃ := S₂.add (b := c') hoc (Nat.ne_of_gt (Nat.lt_of_lt_of_le S.isNs.lt hc1)) hgc fun p hp => Nat.ne_of_lt (Nat.lt_of_lt_of_le (S₁.own_lt hp) hc1)
    have S₄ := S₃.add (b := P) hP' hP.2.1 hP.2.2 fun p hp => by
      rcases List.mem_cons.mp hp with rfl | hp
      · exact Nat.ne_of_gt (Nat.lt_of_lt_of_le (Heap.lt_size hP.1) hc1)
      · exact hrP p hp
    have S₅ := S₄.push (fnMade name qual params body scope clos doc ((mg "__name__").getD .none) c' ctv)
    exact k _ _ _ _ _ _ _ tk [(P, _), (c', oc)] S₅ rfl (.inr ⟨c', oc, vs, tt, rfl, hof, hov⟩) ⟨c', oc, vs, tt, rfl, by simp, hof, hov⟩
  · have hP := S.isOwn (P, tabObj #[rawInt pos.line, rawInt pos.col, .ref c']) (by simp)
    have hc := S.isOwn (c', oc) (by simp)
    refine makeFunction_hit (s := ⟨h, gn, d, t, os⟩) (cv := .ref c') hcl hge (G.keeps S.keep) hcode (C.keeps S.keep) hP.1 trivial (codeAmong_snoc [] trivial rfl) (BA.keeps S.keep) fun ctv doc h' tk hk hsz => ?_
    have S₁ := S.keeps hk
    have S₂ := S₁.push { cls := .type "function", data := .func (fnX name qual params body scope clos .none .none doc ((mg "__name__").getD .none) none (.ref c') ctv) }
    refine k _ _ _ _ _ _ _ tk [(P, _), (c', oc)] S₂ rfl (.inr ⟨c', oc, vs, _, rfl, hoc, hvs⟩) ⟨c', oc, vs, _, rfl, by simp, hoc, hvs⟩
end
end Mine
end
-- part M22
section
set_option maxRecDepth 100000
set_option linter.unusedVariables false
set_option maxHeartbeats 4000000
namespace Mine
open PyProof PySem PySem.Calls PyProof.Rows PySem.W PySem.W.X

noncomputable def idf (i : Nat) : Str × Arguments × List Stmt × Scope × Pos := match bd i with
  | .FunctionDef n a b _ _ _ sc _ _ p :: _ => (n, a, b, sc, p)
  | _ => ("", ⟨[], [], none, [], [], none, []⟩, [], ⟨.function, [], false, false, []⟩, ⟨0, 0, 0, 0⟩)
noncomputable def iNm (i : Nat) : Str := (idf i).1
noncomputable def iPr (i : Nat) : Arguments := (idf i).2.1
noncomputable def iBd (i : Nat) : List Stmt := (idf i).2.2.1
noncomputable def iSc (i : Nat) : Scope := (idf i).2.2.2.1
noncomputable def iPos (i : Nat) : Pos := (idf i).2.2.2.2
noncomputable def idf8 : Str × Arguments × List Stmt × Scope × Pos := match ((bd 8)[1]? : Option Stmt) with
  | some (.FunctionDef n a b _ _ _ sc _ _ p) => (n, a, b, sc, p)
  | _ => ("", ⟨[], [], none, [], [], none, []⟩, [], ⟨.function, [], false, false, []⟩, ⟨0, 0, 0, 0⟩)
noncomputable def idf9 : Str × Arguments × List Stmt × Scope × Pos := match ((bd 9)[0]? : Option Stmt) with
  | some (.FunctionDef n a b _ _ _ sc _ _ p) => (n, a, b, sc, p)
  | _ => ("", ⟨[], [], none, [], [], none, []⟩, [], ⟨.function, [], false, false, []⟩, ⟨0, 0, 0, 0⟩)
noncomputable abbrev q8 : Str := (nm 8 ++ ".<locals>.") ++ idf8.1
noncomputable abbrev q9 : Str := (nm 9 ++ ".<locals>.") ++ idf9.1

/-- the facts of a def that holds an inner def -/
structure InD (fa : Nat → Addr) (mg : Str → Option Value) (g : Heap) (i : Nat) (c P : Addr) : Prop where
  fn : ∃ o pm doc, g.get? (fa i) = some o ∧ o.data = .func (docDef (nm i) (pr i) (bd i) (sc i) pm (.ref c) doc) ∧ g.CodeRec (.ref c) (nm i)
  hd : CodeHd g c P
  ba : g.BuiltinsAt mg P
theorem InD.keeps {fa : Nat → Addr} {mg : Str → Option Value} {g g' : Heap} {i : Nat} {c P : Addr} (x : InD fa mg g i c P) (hk : Keep g g') : InD fa mg g' i c P :=
  ⟨let ⟨o, pm, doc, h1, h2, h3⟩ := x.fn; ⟨o, pm, doc, hk _ _ h1, h2, h3.keeps hk⟩, x.hd.keeps hk, x.ba.keeps hk⟩

section
variable {w : World} {A : Around} {E : Value → Shared → Prop} {h h' : Heap} {gn : Array GenState} {d : Drawn} {t : Nat} {os : OsState} {g : Heap} {L a : Addr} {i : Nat} {vals : List (Option Value)} {own : List (Addr × Obj)}
  {fa : Nat → Addr} {mg mb : Str → Option Value} {n : Str} {cd : Value} {pos : Pos} {sco : Scope} {env : Env} {ns : List Str}
theorem enterK {R : Result → Shared → Prop} {args : List Value} {cc P : Addr} (vals : List (Option Value)) (I : InD fa mg h i cc P) (hlim : h.NoLimit) (hroom : A.depth < recursionLimit)
    (q : (sc i).isCoroutine = false ∧ (sc i).isGenerator = false ∧ (sc i).kind = .function)
    (hbind : ∀ pm cd doc, bindArgs (docDef (nm i) (pr i) (bd i) (sc i) pm cd doc) ⟨args, []⟩ = pure (((pr i).args.map (·.arg)).zip args))
    (hkind : ∀ L, ∀ x ∈ (pr i).args, (sc i).names.lookup x.arg = some .local ∨ ((sc i).names.lookup x.arg = some .cell ∧ ((cellsFrom (L + 1) (sc i).names []).lookup x.arg).isSome = true))
    (hm : ∀ L cd, bindL (envOfC (nm i) (sc i) L (fa i) cd).kindOf (((pr i).args.map (·.arg)).zip args) (fun _ => none) = slot (lc i) vals) (hlen : vals.length = (lc i).length)
    (c : ∀ L h' t', h.objs.size ≤ L → St h L (lc i) vals [] h' → Cl L (cellsFrom (L + 1) (sc i).names []) h' (bindC (envOfC (nm i) (sc i) L (fa i) (.ref cc)).kindOf (((pr i).args.map (·.arg)).zip args) fun _ => none) →
      wpAny (model pg w) (A.deeper (envOfC (nm i) (sc i) L (fa i) (.ref cc))) (execs (bd i) (envOfC (nm i) (sc i) L (fa i) (.ref cc)))
        (fun f s' => R (.ok (.ret (match f with | .ret v => v | _ => .none))) s') (fun _ _ => False) ⟨h', gn, d, t', os⟩) :
    codeAny (model pg w) A (.call (.ref (fa i)) ⟨args, []⟩) R ⟨h, gn, d, t, os⟩ := by
  obtain ⟨o, pm, doc, ho, hd, hcr⟩ := I.fn
  refine call_cells_ret (s := ⟨h, gn, d, t, os⟩) hroom ho hd hlim hcr (hbind _ _ _) ?_ (fun h₁ tk F X => ?_) q.1 q.2.1 q.2.2
  · intro x hx
    obtain ⟨p, hp, e⟩ := List.mem_map.mp (zip_mem hx)
    rw [← e]; exact hkind _ p hp
  · refine c h.objs.size h₁ tk (Nat.le_refl _) ⟨?_, hlen, F.keep, ?_, (fun _ hp => by cases hp), by simp⟩ X
    · rw [← hm h.objs.size (.ref cc)]; exact F.ns
    · exact none_above (Nat.le_refl _)

theorem enterN {R : Result → Shared → Prop} {f : Addr} {fo : Obj} {name qual : Str} {params : Arguments} {body : List Stmt} {scope : Scope} {cl : List (Str × Addr)} {pm cdv ct doc : Value} {args : List Value}
    (hlim : h.NoLimit) (ho : h.get? f = some fo) (hd : fo.data = .func (fnX name qual params body scope cl .none .none doc pm none cdv ct)) (hcd : h.CodeRec cdv qual) (hroom : A.depth < recursionLimit)
    (hbind : bindArgs (fnX name qual params body scope cl .none .none doc pm none cdv ct) ⟨args, []⟩ = pure ((params.args.map (·.arg)).zip args))
    (q : scope.isCoroutine = false ∧ scope.isGenerator = false ∧ scope.kind = .function ∧ (∀ x ∈ scope.names, x.2 ≠ .cell) ∧ (∀ x ∈ params.args, scope.names.lookup x.arg = some .local ∧ x.arg ∈ lcS scope))
    (c : ∀ L h' t', h.objs.size ≤ L → St h L (lcS scope) ((lcS scope).map fun y => ((params.args.map (·.arg)).zip args).reverse.lookup y) [] h' → wpAny (model pg w) (A.deeper (envX qual scope L f cdv cl)) (execs body (envX qual scope L f cdv cl))
        (fun f s' => R (.ok (.ret (match f with | .ret v => v | _ => .none))) s') (fun _ _ => False) ⟨h', gn, d, t', os⟩) :
    codeAny (model pg w) A (.call (.ref f) ⟨args, []⟩) R ⟨h, gn, d, t, os⟩ := by
  obtain ⟨q1, q2, q3, q4, q5⟩ := q
  refine codeAny_call_def (s := ⟨h, gn, d, t, os⟩) (fd := fnX name qual params body scope cl .none .none doc pm none cdv ct) (body := body) (binds := (params.args.map (·.arg)).zip args) hroom ho hd hlim hcd rfl (.of_eq hbind) q4 ?_ (fun h₁ hns hk₁ => ?_) q1 q2 q3
  · intro x hx
    obtain ⟨p, hp, e⟩ := List.mem_map.mp (zip_mem hx)
    rw [← e]; exact (q5 p hp).1
  · refine wpAny_mono (c h.objs.size h₁ _ (Nat.le_refl _) ⟨?_, by rw [List.length_map], hk₁, none_above (Nat.le_refl _), (fun _ hp => by cases hp), by simp⟩) (fun _ _ x => x) fun _ _ x => x.elim
    rw [slot_map _ _ fun y hy => ?_]
    · exact hns
    · refine lookup_rev_none fun p hp e => hy ?_
      obtain ⟨p', hp', e'⟩ := List.mem_map.mp (zip_mem hp)
      rw [← e, ← e']; exact (q5 p' hp').2

/-- a free name read off its cell -/
theorem r_ldF {x : Str} {c : Addr} {v : Value} {Q : Value → Shared → Prop} (hg : h.IsCell c (some v)) (hc : env.cells.lookup x = some c)
    (kk : Q v ⟨h, gn, d, t, os⟩) (hl : env.kindOf x = some .free := by rfl) (hk : env.scope.kind = .function := by rfl) (hd : (x == ("__debug__" : Str)) = false := by rfl) (hcd : (x == ("__classdict__" : Str)) = false := by decide) : wpAny (model pg w) A (eval (.Name x pos) env) Q E ⟨h, gn, d, t, os⟩ :=
  wpAny_Name (wpAny_loadName_free hk hl hc hg kk hcd) hd
theorem callee {f : Addr} {fo : Obj} {fd : FuncData} {e : PySem.Expr} {rest : List PySem.Expr} {Q : Value → Shared → Prop} (ho : g.get? f = some fo) (hd : fo.data = .func fd)
    (c : wpAny (model pg w) A (spliced (backTo pos (starEach (e :: rest) env))) (fun vs s₁ => Keep g s₁.heap ∧ wpAny (model pg w) A (call (.ref f) vs) Q E s₁) E ⟨h, gn, d, t, os⟩)
    (hn : notStar e = true := by rfl) :
    wpAny (model pg w) A (callWith pos (.ref f) [] (backTo pos (starEach (e :: rest) env)) []) Q E ⟨h, gn, d, t, os⟩ :=
  callWith_def hd (wpAny_mono c (fun vs s₁ h₁ => ⟨h₁.1 _ _ ho, h₁.2⟩) fun _ _ x => x) (star1 hn)
end

section
noncomputable def val (n : Nat) : List Int → Int
  | [] => 0
  | x :: r => x + 2 ^ n * val n r
theorem val_app (n : Nat) : ∀ u v : List Int, val n (u ++ v) = val n u + 2 ^ (n * u.length) * val n v := by
  intro u
  induction u with
  | nil => intro v; simp [val]
  | cons x r ih =>
    intro v
    show x + 2 ^ n * val n (r ++ v) = x + 2 ^ n * val n r + 2 ^ (n * (r.length + 1)) * val n v
    rw [ih, Nat.mul_succ, Int.pow_add, Int.mul_add]
    rw [Int.mul_comm (2 ^ (n * r.length)) (2 ^ n), Int.mul_assoc]
    lia
theorem bitXor_cut (x : Nat) (s : Nat) : Builtin.bitXor (x : Int) ((x / 2 ^ s * 2 ^ s : Nat) : Int) = ((x % 2 ^ s : Nat) : Int) := by
  have e : x &&& (x / 2 ^ s * 2 ^ s) = x / 2 ^ s * 2 ^ s := by
    refine Nat.eq_of_testBit_eq fun i => ?_
    rw [Nat.testBit_and, Nat.mul_comm (x / 2 ^ s), Nat.testBit_two_pow_mul, Nat.testBit_div_two_pow]
    by_cases h : s ≤ i
    · simp [h, Nat.sub_add_cancel h]
    · simp [h]
  rw [bitXor_and, bitAnd_pp (Int.natCast_nonneg _) (Int.natCast_nonneg _)]
  have e2 : ((x : Int).toNat &&& ((x / 2 ^ s * 2 ^ s : Nat) : Int).toNat) = x / 2 ^ s * 2 ^ s := e
  rw [e2]
  have e3 := Nat.div_add_mod x (2 ^ s)
  rw [Nat.mul_comm] at e3
  generalize x / 2 ^ s * 2 ^ s = y at *
  lia
end
end Mine
end
-- part M23
section
set_option maxRecDepth 100000
set_option linter.unusedVariables false
set_option maxHeartbeats 4000000
namespace Mine
open PyProof PySem PySem.Calls PyProof.Rows PySem.W PySem.W.X

noncomputable abbrev cl8 (L0 : Addr) : List (Str × Addr) := [("n", L0 + 1), ("inner", L0 + 3), ("a_digits", L0 + 2)]
noncomputable abbrev cl9 (L0 : Addr) : List (Str × Addr) := [("n", L0 + 2), ("inner", L0 + 3), ("digits", L0 + 1)]
noncomputable abbrev s8 : Scope := idf8.2.2.2.1
noncomputable abbrev s9 : Scope := idf9.2.2.2.1
noncomputable def IsLst (o : Obj) (its : Array Value) : Prop := o.cls = .type "list" ∧ ∃ n, o.data = .seq its n

theorem w8_x : LocS s8 "x" 0 := by decide +kernel
theorem w8_L : LocS s8 "L" 1 := by decide +kernel
theorem w8_R : LocS s8 "R" 2 := by decide +kernel
theorem w8_mid : LocS s8 "mid" 3 := by decide +kernel
theorem w8_shift : LocS s8 "shift" 4 := by decide +kernel
theorem w8_upper : LocS s8 "upper" 5 := by decide +kernel
theorem w8_lower : LocS s8 "lower" 6 := by decide +kernel
theorem w9_L : LocS s9 "L" 0 := by decide +kernel
theorem w9_R : LocS s9 "R" 1 := by decide +kernel
theorem w9_mid : LocS s9 "mid" 2 := by decide +kernel
theorem w9_shift : LocS s9 "shift" 3 := by decide +kernel
theorem okI8 : s8.isCoroutine = false ∧ s8.isGenerator = false ∧ s8.kind = .function ∧ (∀ x ∈ s8.names, x.2 ≠ .cell) ∧ (∀ x ∈ idf8.2.1.args, s8.names.lookup x.arg = some .local ∧ x.arg ∈ lcS s8) := by decide +kernel
theorem okI9 : s9.isCoroutine = false ∧ s9.isGenerator = false ∧ s9.kind = .function ∧ (∀ x ∈ s9.names, x.2 ≠ .cell) ∧ (∀ x ∈ idf9.2.1.args, s9.names.lookup x.arg = some .local ∧ x.arg ∈ lcS s9) := by decide +kernel

section
variable {w : World} {A : Around} {E : Value → Shared → Prop} {h h' : Heap} {gn : Array GenState} {d : Drawn} {t : Nat} {os : OsState} {g : Heap} {L a : Addr} {i : Nat} {vals : List (Option Value)} {own : List (Addr × Obj)}
  {fa : Nat → Addr} {mg mb : Str → Option Value} {n : Str} {cd : Value} {pos : Pos} {sco : Scope} {env : Env} {ns : List Str}
theorem pow_cast (s : Nat) : ((2 : Int) ^ s) = ((2 ^ s : Nat) : Int) := by rw [Int.natCast_pow]; rfl
theorem n_add {x y : Nat} {t1 t2 : Tok} {Q : Value → Shared → Prop} (c : ∀ tk t', Q (.int ((x + y : Nat) : Int) tk) ⟨h, gn, d, t', os⟩) : wpAny (model pg w) A (binaryOp .Add (.int (x : Int) t1) (.int (y : Int) t2)) Q E ⟨h, gn, d, t, os⟩ :=
  o_add fun tk t' => by rw [← Int.natCast_add]; exact c tk t'
theorem n_sub {x y : Nat} {t1 t2 : Tok} {Q : Value → Shared → Prop} (hxy : y ≤ x) (c : ∀ tk t', Q (.int ((x - y : Nat) : Int) tk) ⟨h, gn, d, t', os⟩) : wpAny (model pg w) A (binaryOp .Sub (.int (x : Int) t1) (.int (y : Int) t2)) Q E ⟨h, gn, d, t, os⟩ :=
  o_sub fun tk t' => by rw [← Int.ofNat_sub hxy]; exact c tk t'
theorem n_mul {x y : Nat} {t1 t2 : Tok} {Q : Value → Shared → Prop} (hx : x ≤ 1000000) (c : ∀ tk t', Q (.int ((x * y : Nat) : Int) tk) ⟨h, gn, d, t', os⟩) : wpAny (model pg w) A (binaryOp .Mult (.int (x : Int) t1) (.int (y : Int) t2)) Q E ⟨h, gn, d, t, os⟩ :=
  o_mul (.of_left (PySem.intBits_le_64 (by lia) (by lia))) fun tk t' => by rw [← Int.natCast_mul]; exact c tk t'
theorem n_shr {x y : Nat} {t1 t2 : Tok} {Q : Value → Shared → Prop} (c : ∀ tk t', Q (.int ((x / 2 ^ y : Nat) : Int) tk) ⟨h, gn, d, t', os⟩) : wpAny (model pg w) A (binaryOp .RShift (.int (x : Int) t1) (.int (y : Int) t2)) Q E ⟨h, gn, d, t, os⟩ :=
  o_shr (Int.natCast_nonneg _) fun tk t' => by
    have e : (x : Int).fdiv (2 ^ (y : Int).toNat) = ((x / 2 ^ y : Nat) : Int) := by rw [Int.toNat_natCast, pow_cast, Int.fdiv_eq_ediv_of_nonneg _ (Int.natCast_nonneg _), ← Int.natCast_ediv]
    rw [e]; exact c tk t'
theorem n_shl {x y m : Nat} {t1 t2 : Tok} {Q : Value → Shared → Prop} (hx : x < 2 ^ m) (hz : m + y ≤ 100000000) (c : ∀ tk t', Q (.int ((x * 2 ^ y : Nat) : Int) tk) ⟨h, gn, d, t', os⟩) : wpAny (model pg w) A (binaryOp .LShift (.int (x : Int) t1) (.int (y : Int) t2)) Q E ⟨h, gn, d, t, os⟩ :=
  o_shl (Int.natCast_nonneg _) (by have := PyProof.Rows.intBits_le (a := (x : Int)) (k := m) (by simpa using hx); lia) fun tk t' => by
    have e : (x : Int) * (2 ^ (y : Int).toNat) = ((x * 2 ^ y : Nat) : Int) := by rw [Int.toNat_natCast, pow_cast, Int.natCast_mul]
    rw [e]; exact c tk t'
theorem n_xor_cut {x s : Nat} {t1 t2 : Tok} {Q : Value → Shared → Prop} (c : ∀ tk t', Q (.int ((x % 2 ^ s : Nat) : Int) tk) ⟨h, gn, d, t', os⟩) : wpAny (model pg w) A (binaryOp .BitXor (.int (x : Int) t1) (.int ((x / 2 ^ s * 2 ^ s : Nat) : Int) t2)) Q E ⟨h, gn, d, t, os⟩ :=
  o_xor fun tk t' => by rw [bitXor_cut]; exact c tk t'
theorem St.updX {a : Addr} {o o' : Obj} {pre post : List (Addr × Obj)} (S : St g L ns vals (pre ++ (a, o) :: post) h) (hs : ∀ b ob, b ≠ a → h.get? b = some ob → h'.get? b = some ob) (ho : h'.get? a = some o') : St g L ns vals (pre ++ (a, o') :: post) h' where
  isNs := S.isNs.at' fun ob e => hs L ob (fun q => (S.isOwn (a, o) (by simp)).2.1 q.symm) e
  len := S.len
  keep := fun b ob e => hs b ob (by intro he; subst he; rw [(S.isOwn (b, _) (List.mem_append_right _ (.head _))).2.2] at e; cases e) (S.keep b ob e)
  gL := S.gL
  isOwn := fun p hp => by
    have hnd := S.nd
    rw [List.map_append, List.map_cons, List.nodup_append, List.nodup_cons] at hnd
    rcases List.mem_append.mp hp with h1 | h1
    · have hne : p.1 ≠ a := hnd.2.2 _ (List.mem_map.mpr ⟨p, h1, rfl⟩) _ (.head _)
      have := S.isOwn p (List.mem_append_left _ h1)
      exact ⟨hs _ _ hne this.1, this.2⟩
    · rcases List.mem_cons.mp h1 with rfl | h1
      · exact ⟨ho, (S.isOwn (a, o) (by simp)).2⟩
      · have hne : p.1 ≠ a := fun e => hnd.2.1.1 (e ▸ List.mem_map.mpr ⟨p, h1, rfl⟩)
        have := S.isOwn p (List.mem_append_right _ (.tail _ h1))
        exact ⟨hs _ _ hne this.1, this.2⟩
  nd := by have := S.nd; simpa using this

theorem ints_split {vs : List Value} {ns : List Int} (h : IntsAre vs ns) : ∀ {k : Nat} {z : Int} {tz : Tok}, k < ns.length → IntsAre (vs.set k (.int z tz)) (ns.take k ++ [z] ++ ns.drop (k + 1)) := by
  induction h with
  | nil => intro k _ _ hk; simp at hk
  | cons y t hr ih =>
    intro k z tz hk
    cases k with
    | zero => simpa using IntsAre.cons z tz hr
    | succ k => simpa using IntsAre.cons y t (ih (k := k) (z := z) (tz := tz) (by simpa using hk))
theorem ints_len {vs : List Value} {ns : List Int} (h : IntsAre vs ns) : vs.length = ns.length := by
  induction h with
  | nil => rfl
  | cons y t _ ih => simp [ih]

theorem Ow.solo {D : Addr} {o : Obj} (O : Ow g [(D, o)] h) : Ow (hide h [D]) [(D, o)] h ∧ Keep g (hide h [D]) ∧ ∀ {h'}, Keep (hide h [D]) h' → ∀ b ob, b ≠ D → h.get? b = some ob → h'.get? b = some ob := by
  have hD := O.isOwn _ (.head _)
  refine ⟨⟨fun b ob e => ?_, fun p hp => ?_, by simp⟩, fun b ob e => ?_, fun hk b ob hb e => hk b ob ?_⟩
  · rw [hide_get] at e
    split at e
    · cases e
    · exact e
  · rw [List.mem_singleton.mp hp]
    exact ⟨hD.1, by rw [hide_get, if_pos (.head _)]⟩
  · rw [hide_get, if_neg, O.keep _ _ e]
    intro hm
    rw [List.mem_singleton.mp hm, hD.2] at e; cases e
  · rw [hide_get, if_neg (by simpa using hb), e]

theorem inA_spec {w : World} {L0 f D : Addr} {fo : Obj} {cdv ct doc pm : Value} {n : Nat} {tn : Tok} : ∀ (k : Nat) {A : Around} {h g : Heap} {gn : Array GenState} {d : Drawn} {t : Nat} {os : OsState} {o : Obj} {its : Array Value} {ds : List Int} {R : Result → Shared → Prop} {x lo hi : Nat} {tx tl th : Tok}
    (hA : A.handled = none) (hroom : A.depth + k + 2 < recursionLimit) (O : Ow g [(D, o)] h) (hlim : g.NoLimit)
    (hf : g.get? f = some fo) (hfo : fo.data = .func (fnX idf8.1 q8 idf8.2.1 idf8.2.2.1 s8 (cl8 L0) .none .none doc pm none cdv ct)) (hcr : g.CodeRec cdv q8)
    (c1 : g.IsCell (L0 + 1) (some (.int (n : Int) tn))) (c2 : g.IsCell (L0 + 2) (some (.ref D))) (c3 : g.IsCell (L0 + 3) (some (.ref f)))
    (hl : IsLst o its) (hi' : IntsAre its.toList ds) (h1 : lo < hi) (h2 : hi ≤ ds.length) (h3 : ds.length ≤ 10000) (h4 : hi - lo ≤ 2 ^ k) (hx : x < 2 ^ (n * (hi - lo))) (hn : n ≤ 1000)
    (kk : ∀ h' t' o' its' mid, (∀ b ob, b ≠ D → h.get? b = some ob → h'.get? b = some ob) → h'.get? D = some o' → IsLst o' its' → IntsAre its'.toList (ds.take lo ++ mid ++ ds.drop hi) → mid.length = hi - lo → (∀ z ∈ mid, 0 ≤ z ∧ z < 2 ^ n) → val n mid = (x : Int) →
      R (.ok (.ret .none)) ⟨h', gn, d, t', os⟩),
    codeAny (model pg w) A (.call (.ref f) ⟨[.int (x : Int) tx, .int (lo : Int) tl, .int (hi : Int) th], []⟩) R ⟨h, gn, d, t, os⟩ := by
  intro k
  induction k using Nat.strongRecOn with
  | ind k ih =>
    intro A h g gn d t os o its ds R x lo hi tx tl th hA hroom O hlim hf hfo hcr c1 c2 c3 hl hi' h1 h2 h3 h4 hx hn kk
    obtain ⟨O', gG, hback⟩ := O.solo
    replace hlim := hlim.keeps gG
    replace hf := gG _ _ hf
    replace hcr := hcr.keeps gG
    replace c1 := c1.keeps gG
    replace c2 := c2.keeps gG
    replace c3 := c3.keeps gG
    clear gG O
    generalize hide h [D] = G at *
    refine enterN (hlim.keeps O'.keep) (O'.keep _ _ hf) hfo (hcr.keeps O'.keep) (by lia) (by kernel_rfl) okI8 fun L h₁ t₁ hL₁ S0 => ?_
    have S : St G L (lcS s8) [some (.int (x : Int) tx), some (.int (lo : Int) tl), some (.int (hi : Int) th), none, none, none, none] [(D, o)] h₁ := O'.st S0
    have hk1 : Keep h h₁ := S0.keep
    clear S0
    have hD : h₁.IsList D its := ⟨o, (S.isOwn _ (.head _)).1, hl⟩
    have hsz : its.size = ds.length := by have := ints_len hi'; simpa using this
    refine wpAny_execs_cons (wpAny_If (wpAny_isTrue_Compare1 (wpAny_BinOp ?_)))
    refine r_loc S w8_L rfl (c_int fun t₂ => n_add (y := 1) fun u₁ t₃ => r_loc S w8_R rfl (o_eq (wpAny_truthy_bool ?_)))
    by_cases hleaf : lo + 1 = hi
    · rw [if_pos (by rw [hleaf]; simp)]
      refine wpAny_execs_cons (wpAny_Assign_Subscript ?_)
      refine r_loc S w8_x rfl (r_ldF (c := L0 + 2) (c2.keeps S.keep) (by rfl) (r_loc S w8_L rfl ?_))
      refine wpAny_setItem_list (s := ⟨h₁, gn, d, t₃, os⟩) hD (by lia) (by lia) (by lia) fun h₂ hl₂ hs₂ => ?_
      refine wpAny_execs_cons (wpAny_Return_none ?_)
      obtain ⟨o₂, ho₂, hl₂⟩ := hl₂
      refine kk h₂ _ o₂ _ [(x : Int)] (fun b ob hb e => hs₂.extBut b ob hb (hk1 b ob e)) ho₂ hl₂ ?_ (by simp; lia) ?_ ?_
      · have := ints_split hi' (k := lo) (z := (x : Int)) (tz := tx) (by lia)
        rw [hleaf] at this
        simpa using this
      · intro z hz
        rw [List.mem_singleton.mp hz]
        have e1 : hi - lo = 1 := by lia
        rw [e1, Nat.mul_one] at hx
        refine ⟨by lia, ?_⟩
        rw [pow_cast]; lia
      · simp [val]
    · rw [if_neg (by simpa using fun e : ((lo + 1 : Nat) : Int) = (hi : Int) => hleaf (by lia))]
      refine wpAny_execs_nil ?_
      have hpk : 2 ^ k ≠ 1 := fun e => by lia
      have hk0 : k ≠ 0 := fun e => hpk (by rw [e])
      obtain ⟨k, rfl⟩ : ∃ j, k = j + 1 := ⟨k - 1, by lia⟩
      rw [Nat.pow_succ] at h4
      refine wpAny_execs_cons (wpAny_Assign_Name (wpAny_BinOp (wpAny_BinOp ?_)))
      refine r_loc S w8_L rfl (r_loc S w8_R rfl (n_add fun u₂ t₄ => c_int fun t₅ => n_shr (y := 1) fun u₃ t₆ => ?_))
      have m1 : lo < (lo + hi) / 2 ^ 1 := by lia
      have m2 : (lo + hi) / 2 ^ 1 < hi := by lia
      have m3 : (lo + hi) / 2 ^ 1 - lo ≤ 2 ^ k := by lia
      have m4 : hi - (lo + hi) / 2 ^ 1 ≤ 2 ^ k := by lia
      generalize (lo + hi) / 2 ^ 1 = m at *
      refine r_st S w8_mid fun h₂ t₇ S₂ _ => ?_
      refine wpAny_execs_cons (wpAny_Assign_Name (wpAny_BinOp (wpAny_BinOp ?_)))
      refine r_loc S₂ w8_mid rfl (r_loc S₂ w8_L rfl (n_sub (by lia) fun u₄ t₈ => r_ldF (c := L0 + 1) (c1.keeps S₂.keep) (by rfl) (n_mul (by lia) fun u₅ t₉ => ?_)))
      have hs : (m - lo) * n ≤ n * (hi - lo) := by rw [Nat.mul_comm]; exact Nat.mul_le_mul_left n (by lia)
      have hbig : n * (hi - lo) ≤ 1000 * 10000 := Nat.mul_le_mul hn (by lia)
      have hsplit : n * (hi - lo) = (m - lo) * n + (hi - m) * n := by
        rw [← Nat.add_mul, Nat.mul_comm]; congr 1; lia
      have hes : (m - lo) * n = n * (m - lo) := Nat.mul_comm _ _
      have heh : (hi - m) * n = n * (hi - m) := Nat.mul_comm _ _
      generalize (m - lo) * n = sh at *
      refine r_st S₂ w8_shift fun h₃ t₁₀ S₃ _ => ?_
      refine wpAny_execs_cons (wpAny_Assign_Name (wpAny_BinOp (r_loc S₃ w8_x rfl (r_loc S₃ w8_shift rfl (n_shr fun u₆ t₁₁ => ?_)))))
      refine r_st S₃ w8_upper fun h₄ t₁₂ S₄ _ => ?_
      refine wpAny_execs_cons (wpAny_Assign_Name (wpAny_BinOp (r_loc S₄ w8_x rfl (wpAny_BinOp ?_))))
      refine r_loc S₄ w8_upper rfl (r_loc S₄ w8_shift rfl (n_shl (m := n * (hi - lo)) (Nat.lt_of_le_of_lt (Nat.div_le_self _ _) hx) (by lia) fun u₇ t₁₃ => n_xor_cut fun u₈ t₁₄ => ?_))
      refine r_st S₄ w8_lower fun h₅ t₁₅ S₅ _ => ?_
      refine wpAny_execs_cons (wpAny_Expr (Call_ (r_ldF (c := L0 + 3) (c3.keeps S₅.keep) (by rfl) ?_)))
      refine callee hf hfo (acons (r_loc S₅ w8_lower rfl (acons (r_loc S₅ w8_L rfl (acons (r_loc S₅ w8_mid rfl (anil ⟨S₅.keep, wpAny_call ?_⟩)))))))
      refine ih k (by lia) (g := G) hA (by show A.depth + 1 + k + 2 < _; lia) S₅.toOw hlim hf hfo hcr c1 c2 c3 hl hi' m1 (by lia) h3 m3 ?_ hn fun h₆ t₁₆ o₆ its₆ mid₆ hk₆ hD₆ hl₆ hi₆ hml hmr hmv => ?_
      · rw [← hes]; exact Nat.mod_lt _ (Nat.two_pow_pos _)
      have S₆ := S₅.updX (pre := []) hk₆ hD₆
      refine wpAny_execs_cons (wpAny_Expr (Call_ (r_ldF (c := L0 + 3) (c3.keeps S₆.keep) (by rfl) ?_)))
      refine callee hf hfo (acons (r_loc S₆ w8_upper rfl (acons (r_loc S₆ w8_mid rfl (acons (r_loc S₆ w8_R rfl (anil ⟨S₆.keep, wpAny_call ?_⟩)))))))
      have hl1 : (ds.take lo).length = lo := by rw [List.length_take]; lia
      have hl2 : (ds.take lo ++ mid₆).length = m := by rw [List.length_append, hl1, hml]; lia
      refine ih k (by lia) (g := G) hA (by show A.depth + 1 + k + 2 < _; lia) S₆.toOw hlim hf hfo hcr c1 c2 c3 hl₆ hi₆ m2 (by rw [List.length_append, hl2, List.length_drop]; lia) (by rw [List.length_append, hl2, List.length_drop]; lia) m4 ?_ hn fun h₇ t₁₇ o₇ its₇ mid₇ hk₇ hD₇ hl₇ hi₇ hml₇ hmr₇ hmv₇ => ?_
      · rw [← heh]
        refine Nat.div_lt_of_lt_mul ?_
        rw [← Nat.pow_add, ← hsplit]; exact hx
      have S₇ := S₆.updX (pre := []) hk₇ hD₇
      repeat refine wpAny_execs_nil ?_
      refine kk h₇ _ o₇ its₇ (mid₆ ++ mid₇) (hback S₇.keep) hD₇ hl₇ ?_ (by rw [List.length_append, hml, hml₇]; lia) ?_ ?_
      · have e1 : (ds.take lo ++ mid₆ ++ ds.drop m).take m = ds.take lo ++ mid₆ := by
          rw [List.take_append_of_le_length (by lia), List.take_of_length_le (by lia)]
        have e2 : (ds.take lo ++ mid₆ ++ ds.drop m).drop hi = ds.drop hi := by
          rw [List.drop_append, List.drop_eq_nil_of_le (by lia), hl2, List.drop_drop, List.nil_append]
          congr 1; lia
        rw [e1, e2] at hi₇
        simpa using hi₇
      · intro z hz
        rcases List.mem_append.mp hz with h | h
        · exact hmr z h
        · exact hmr₇ z h
      · rw [val_app, hmv, hmv₇, hml, ← hes, pow_cast, ← Int.natCast_mul, ← Int.natCast_add]
        have := Nat.mod_add_div x (2 ^ sh)
        rw [this]
end
end Mine
end
-- part M24
section
set_option maxRecDepth 100000
set_option linter.unusedVariables false
set_option maxHeartbeats 4000000
namespace Mine
open PyProof PySem PySem.Calls PyProof.Rows PySem.W PySem.W.X

theorem val_range (n : Nat) : ∀ ds : List Int, (∀ z ∈ ds, 0 ≤ z ∧ z < 2 ^ n) → 0 ≤ val n ds ∧ val n ds < 2 ^ (n * ds.length) := by
  intro ds
  induction ds with
  | nil => intro _; simp [val]
  | cons x r ih =>
    intro hr
    obtain ⟨h0, h1⟩ := ih fun z hz => hr z (.tail _ hz)
    obtain ⟨x0, x1⟩ := hr x (.head _)
    show 0 ≤ x + 2 ^ n * val n r ∧ x + 2 ^ n * val n r < 2 ^ (n * (r.length + 1))
    rw [Nat.mul_succ, Int.pow_add, Int.mul_comm (2 ^ (n * r.length))]
    have hp : (0 : Int) ≤ 2 ^ n := by rw [pow_cast]; exact Int.natCast_nonneg _
    have a1 : 0 ≤ 2 ^ n * val n r := Int.mul_nonneg hp h0
    have a2 : 2 ^ n * (val n r + 1) ≤ 2 ^ n * 2 ^ (n * r.length) := Int.mul_le_mul_of_nonneg_left h1 hp
    rw [Int.mul_add, Int.mul_one] at a2
    generalize (2 : Int) ^ n = p at *
    generalize p * val n r = y at *
    generalize p * 2 ^ (n * r.length) = z at *
    lia
theorem seg_split {α : Type} (ds : List α) {lo m hi : Nat} (h1 : lo ≤ m) (h2 : m ≤ hi) (h3 : hi ≤ ds.length) : (ds.take hi).drop lo = (ds.take m).drop lo ++ (ds.take hi).drop m := by
  have e : ds.take hi = ds.take m ++ (ds.take hi).drop m := by
    have := List.take_append_drop m (ds.take hi)
    rw [List.take_take, Nat.min_eq_left h2] at this
    exact this.symm
  have hl : (ds.take m).length = m := by rw [List.length_take]; lia
  have := congrArg (List.drop lo) e
  rw [List.drop_append, hl, Nat.sub_eq_zero_of_le h1, List.drop_zero] at this
  exact this

section
variable {w : World} {A : Around} {E : Value → Shared → Prop} {h h' : Heap} {gn : Array GenState} {d : Drawn} {t : Nat} {os : OsState} {g : Heap} {L a : Addr} {i : Nat} {vals : List (Option Value)} {own : List (Addr × Obj)}
  {fa : Nat → Addr} {mg mb : Str → Option Value} {n : Str} {cd : Value} {pos : Pos} {sco : Scope} {env : Env} {ns : List Str}
theorem Ow.drop (O : Ow g own h) {own' : List (Addr × Obj)} (hs : own'.Sublist own) : Ow g own' h := ⟨O.keep, fun p hp => O.isOwn p (hs.subset hp), (hs.map _).nodup O.nd⟩

theorem inB_spec {w : World} {L0 f D : Addr} {fo : Obj} {cdv ct doc pm : Value} {n : Nat} {tn : Tok} {its : Array Value} {ds : List Int} (hi' : IntsAre its.toList ds) (hr : ∀ z ∈ ds, 0 ≤ z ∧ z < 2 ^ n) (h3 : ds.length ≤ 10000) (hn : n ≤ 1000)
    (hfo : fo.data = .func (fnX idf9.1 q9 idf9.2.1 idf9.2.2.1 s9 (cl9 L0) .none .none doc pm none cdv ct)) : ∀ (k : Nat) {A : Around} {h : Heap} {gn : Array GenState} {d : Drawn} {t : Nat} {os : OsState} {R : Result → Shared → Prop} {lo hi : Nat} {tl th : Tok}
    (hroom : A.depth + k + 2 < recursionLimit) (hlim : h.NoLimit) (hf : h.get? f = some fo) (hcr : h.CodeRec cdv q9)
    (c1 : h.IsCell (L0 + 2) (some (.int (n : Int) tn))) (c2 : h.IsCell (L0 + 1) (some (.ref D))) (c3 : h.IsCell (L0 + 3) (some (.ref f))) (hl : h.IsList D its)
    (h1 : lo < hi) (h2 : hi ≤ ds.length) (h4 : hi - lo ≤ 2 ^ k)
    (kk : ∀ h' t' tk, Keep h h' → R (.ok (.ret (.int (val n ((ds.take hi).drop lo)) tk))) ⟨h', gn, d, t', os⟩),
    codeAny (model pg w) A (.call (.ref f) ⟨[.int (lo : Int) tl, .int (hi : Int) th], []⟩) R ⟨h, gn, d, t, os⟩ := by
  intro k
  induction k using Nat.strongRecOn with
  | ind k ih =>
    intro A h gn d t os R lo hi tl th hroom hlim hf hcr c1 c2 c3 hl h1 h2 h4 kk
    refine enterN hlim hf hfo hcr (by lia) (by kernel_rfl) okI9 fun L h₁ t₁ hL₁ S => ?_
    have hsz : its.size = ds.length := by have := ints_len hi'; simpa using this
    refine wpAny_execs_cons (wpAny_If (wpAny_isTrue_Compare1 (wpAny_BinOp ?_)))
    refine r_loc S w9_L rfl (c_int fun t₂ => n_add (y := 1) fun u₁ t₃ => r_loc S w9_R rfl (o_eq (wpAny_truthy_bool ?_)))
    by_cases hleaf : lo + 1 = hi
    · rw [if_pos (by rw [hleaf]; simp)]
      obtain ⟨tk, hx⟩ := ints_get hi' (k := lo) (by lia)
      refine wpAny_execs_cons (wpAny_Return_some ?_)
      refine Subscript_Name (r_ldF (c := L0 + 1) (c2.keeps S.keep) (by rfl) (r_loc S w9_L rfl (item_nn (x := .int (ds.getD lo 0) tk) (hl.at fun o e => S.keep _ _ e) (by lia) (by simpa using hx) ?_)))
      have e : val n ((ds.take hi).drop lo) = ds.getD lo 0 := by
        have hlt : lo < ds.length := by lia
        have e1 : (ds.take hi).drop lo = [ds.getD lo 0] := by
          rw [← hleaf, List.take_add_one, List.getElem?_eq_getElem hlt, List.drop_append]
          simp [List.getD, hlt]
          rw [Nat.min_eq_left (by lia)]
          simp
        rw [e1]; simp [val]
      rw [e] at kk
      exact kk _ _ _ S.keep
    · rw [if_neg (by simpa using fun e : ((lo + 1 : Nat) : Int) = (hi : Int) => hleaf (by lia))]
      refine wpAny_execs_nil ?_
      have hpk : 2 ^ k ≠ 1 := fun e => by lia
      have hk0 : k ≠ 0 := fun e => hpk (by rw [e])
      obtain ⟨k, rfl⟩ : ∃ j, k = j + 1 := ⟨k - 1, by lia⟩
      rw [Nat.pow_succ] at h4
      refine wpAny_execs_cons (wpAny_Assign_Name (wpAny_BinOp (wpAny_BinOp ?_)))
      refine r_loc S w9_L rfl (r_loc S w9_R rfl (n_add fun u₂ t₄ => c_int fun t₅ => n_shr (y := 1) fun u₃ t₆ => ?_))
      have m1 : lo < (lo + hi) / 2 ^ 1 := by lia
      have m2 : (lo + hi) / 2 ^ 1 < hi := by lia
      have m3 : (lo + hi) / 2 ^ 1 - lo ≤ 2 ^ k := by lia
      have m4 : hi - (lo + hi) / 2 ^ 1 ≤ 2 ^ k := by lia
      generalize (lo + hi) / 2 ^ 1 = m at *
      refine r_st S w9_mid fun h₂ t₇ S₂ _ => ?_
      refine wpAny_execs_cons (wpAny_Assign_Name (wpAny_BinOp (wpAny_BinOp ?_)))
      refine r_loc S₂ w9_mid rfl (r_loc S₂ w9_L rfl (n_sub (by lia) fun u₄ t₈ => r_ldF (c := L0 + 2) (c1.keeps S₂.keep) (by rfl) (n_mul (by lia) fun u₅ t₉ => ?_)))
      refine r_st S₂ w9_shift fun h₃ t₁₀ S₃ _ => ?_
      refine wpAny_execs_cons (wpAny_Return_some (wpAny_BinOp (wpAny_BinOp (Call_ (r_ldF (c := L0 + 3) (c3.keeps S₃.keep) (by rfl) ?_)))))
      refine callee hf hfo (acons (r_loc S₃ w9_mid rfl (acons (r_loc S₃ w9_R rfl (anil ⟨S₃.keep, wpAny_call ?_⟩)))))
      have K₃ := S₃.keep
      refine ih k (by lia) (by show A.depth + 1 + k + 2 < _; lia) (hlim.keeps K₃) (K₃ _ _ hf) (hcr.keeps K₃) (c1.keeps K₃) (c2.keeps K₃) (c3.keeps K₃) (hl.at fun o e => K₃ _ _ e) m2 h2 m4 fun h₄ t₁₁ tk₁ hk₄ => ?_
      have S₄ := S₃.keeps hk₄
      have K₄ := S₄.keep
      obtain ⟨v0, v1⟩ := val_range n ((ds.take hi).drop m) fun z hz => hr z (List.mem_of_mem_take (List.mem_of_mem_drop hz))
      have ln1 : ((ds.take hi).drop m).length = hi - m := by rw [List.length_drop, List.length_take]; lia
      have ln2 : ((ds.take m).drop lo).length = m - lo := by rw [List.length_drop, List.length_take]; lia
      rw [ln1] at v1
      have b1 : n * (hi - m) ≤ 1000 * 10000 := Nat.mul_le_mul hn (by lia)
      have b2 : (m - lo) * n ≤ 10000 * 1000 := Nat.mul_le_mul (by lia) hn
      refine r_loc S₄ w9_shift rfl (o_shl (Int.natCast_nonneg _) ?_ fun u₆ t₁₂ => ?_)
      · have := PyProof.Rows.intBits_le (a := val n ((ds.take hi).drop m)) (k := n * (hi - m)) (by rw [pow_cast] at v1; lia)
        lia
      refine Call_ (r_ldF (c := L0 + 3) (c3.keeps K₄) (by rfl) ?_)
      refine callee hf hfo (acons (r_loc S₄ w9_L rfl (acons (r_loc S₄ w9_mid rfl (anil ⟨S₄.keep, wpAny_call ?_⟩)))))
      refine ih k (by lia) (by show A.depth + 1 + k + 2 < _; lia) (hlim.keeps K₄) (K₄ _ _ hf) (hcr.keeps K₄) (c1.keeps K₄) (c2.keeps K₄) (c3.keeps K₄) (hl.at fun o e => K₄ _ _ e) m1 (by lia) m3 fun h₅ t₁₃ tk₂ hk₅ => ?_
      have S₅ := S₄.keeps hk₅
      refine o_add fun u₇ t₁₄ => ?_
      have e : val n ((ds.take hi).drop lo) = val n ((ds.take hi).drop m) * 2 ^ (((m - lo) * n : Nat) : Int).toNat + val n ((ds.take m).drop lo) := by
        rw [seg_split ds (Nat.le_of_lt m1) (Nat.le_of_lt m2) h2, val_app, ln2, Int.toNat_natCast, Nat.mul_comm n, Int.mul_comm (2 ^ _)]
        lia
      rw [e] at kk
      exact kk _ _ _ S₅.keep
end
end Mine
end
-- part M25
section
set_option maxRecDepth 100000
set_option linter.unusedVariables false
set_option maxHeartbeats 4000000
namespace Mine
open PyProof PySem PySem.Calls PyProof.Rows PySem.W PySem.W.X

theorem fold_rep (v : Value) : ∀ (n : Nat) (acc : Array Value), (List.foldl (fun x1 x2 => x1 ++ x2) acc (List.replicate n #[v])).toList = acc.toList ++ List.replicate n v := by
  intro n
  induction n with
  | zero => intro acc; simp
  | succ n ih =>
    intro acc
    rw [List.replicate_succ, List.foldl_cons, ih, List.replicate_succ]
    simp
theorem ints_rep (z : Int) (t : Tok) : ∀ n : Nat, IntsAre (List.replicate n (.int z t)) (List.replicate n z) := by
  intro n
  induction n with
  | zero => exact .nil
  | succ n ih => rw [List.replicate_succ, List.replicate_succ]; exact .cons z t ih

section
variable {w : World} {A : Around} {E : Value → Shared → Prop} {h h' : Heap} {gn : Array GenState} {d : Drawn} {t : Nat} {os : OsState} {g : Heap} {L a : Addr} {i : Nat} {vals : List (Option Value)} {own : List (Addr × Obj)}
  {fa : Nat → Addr} {mg mb : Str → Option Value} {n : Str} {cd : Value} {pos : Pos} {sco : Scope} {env : Env} {ns : List Str}
/-- the state told in the library's words: nothing lies below it, and all it holds but its frame counts as new -/
theorem St.asNews {ns : List Str} (S : St g L ns vals own h) : ∃ all, Fr {} L h (slot ns vals) ∧ News {} L h all ∧ ∀ h', Fr {} L h' (slot ns vals) → News {} L h' all → St g L ns vals own h' := by
  have e0 : ∀ b, ({} : Heap).get? b = none := fun b => by simp [Heap.get?]
  refine ⟨(List.range h.objs.size).filterMap fun b => if b = L then none else (h.get? b).map (b, ·), ⟨S.isNs, fun b o e => absurd e (by rw [e0]; nofun), Nat.zero_le _⟩, fun p hp => ?_, fun h' F N => ?_⟩
  · obtain ⟨b, _, e⟩ := List.mem_filterMap.mp hp
    by_cases hb : b = L
    · rw [if_pos hb] at e; cases e
    · rw [if_neg hb] at e
      obtain ⟨o, ho, rfl⟩ := Option.map_eq_some_iff.mp e
      exact ⟨ho, hb, e0 _⟩
  · have old : ∀ b o, b ≠ L → h.get? b = some o → h'.get? b = some o := fun b o hb e =>
      (N (b, o) (List.mem_filterMap.mpr ⟨b, List.mem_range.mpr (Heap.lt_size e), by rw [if_neg hb, e]; rfl⟩)).1
    exact ⟨F.ns, S.len, fun b o e => old b o (fun q => by rw [q, S.gL] at e; cases e) (S.keep b o e), S.gL, fun p hp => ⟨old _ _ (S.isOwn p hp).2.1 (S.isOwn p hp).1, (S.isOwn p hp).2⟩, S.nd⟩
theorem o_rep {ns : List Str} {l : Addr} {v : Value} {k : Nat} {x : Nat} {u : Tok} {Q : Value → Shared → Prop} (S : St g L ns vals own h) (hl : h.get? l = some (lst #[v] k)) (hx : x ≤ 100000)
    (c : ∀ (its : Array Value) h', its.toList = List.replicate x v → St g L ns vals ((h.objs.size, lst its 0) :: own) h' → Q (.ref h.objs.size) ⟨h', gn, d, t, os⟩) :
    wpAny (model pg w) A (binaryOp .Mult (.ref l) (.int (x : Int) u)) Q E ⟨h, gn, d, t, os⟩ := by
  obtain ⟨all, F, N, back⟩ := S.asNews
  refine mul_list (s := ⟨h, gn, d, t, os⟩) F N hl (by lia) (by lia) (by rw [show (#[v] : Array Value).size = 1 from rfl, Int.toNat_natCast]; lia) fun h' F' N' => ?_
  have hD := N' _ (.head _)
  have S' := (back h' F' fun p hp => N' p (.tail _ hp)).add hD.1 hD.2.1 (by
    cases hq : g.get? h.objs.size with
    | none => rfl
    | some o => exact absurd (Heap.lt_size (S.keep _ _ hq)) (Nat.lt_irrefl _)) fun p hp e => absurd (Heap.lt_size (S.isOwn p hp).1) (by rw [e]; exact Nat.lt_irrefl _)
  exact c _ h' (by rw [if_neg (by simp), Int.toNat_natCast, fold_rep]; rfl) S'
theorem bits_lt (x : Nat) : x < 2 ^ Builtin.Int.intBits (x : Int) := by
  have := (PySem.intBits_le_iff (x := (x : Int)) (m := Builtin.Int.intBits (x : Int))).mp (Nat.le_refl _)
  simpa using this
theorem noPy {x y : Int} (hy : y.natAbs < 2 ^ 1000) : Builtin.divisionGoesByPylong x y = false := by
  refine noPylong_of_log2 ?_
  by_cases h0 : y.natAbs = 0
  · rw [h0]; decide +kernel
  · have := (Nat.log2_lt h0).mpr hy
    lia
theorem o_divmod {x y : Int} {t1 t2 : Tok} {Q : Value → Shared → Prop} (hy : y ≠ 0) (hp : Builtin.divisionGoesByPylong x y = false) (c : ∀ u v t', Q (.ref h.objs.size) ⟨h.push { cls := .type "tuple", data := .seq #[.int (x.fdiv y) u, .int (x.fmod y) v] }, gn, d, t', os⟩) :
    wpAny (model pg w) A (call (.builtin "divmod") [.int x t1, .int y t2]) Q E ⟨h, gn, d, t, os⟩ := divmod_int (s := ⟨h, gn, d, t, os⟩) hy (c _ _ _) (.inl hp)
theorem def_stmt {name : Str} {params : Arguments} {body : List Stmt} {scope : Scope} {p : Pos} {s : Shared} {Q : Flow → Shared → Prop} (k : wpAny (model pg w) A (makeFunction name (qualnameIn env name name) params (.stmts body) scope env [] [] [] p p.line) (fun f s₁ => wpAny (model pg w) A (storeName env name f) (fun _ s₂ => Q .next s₂) E s₁) E s)
    (h1 : params.defaults = [] := by rfl) (h2 : params.kw_defaults = [] := by rfl) (h3 : annTrees params none env = [] := by rfl) :
    wpAny (model pg w) A (exec (.FunctionDef name params body [] none [] scope none name p) env) Q E s := nestDef_K h1 h2 h3 k
end
end Mine
end
-- part M26
section
set_option maxRecDepth 100000
set_option linter.unusedVariables false
set_option maxHeartbeats 4000000
namespace Mine
open PyProof PySem PySem.Calls PyProof.Rows PySem.W PySem.W.X

section
variable {w : World} {A : Around} {E : Value → Shared → Prop} {h h' : Heap} {gn : Array GenState} {d : Drawn} {t : Nat} {os : OsState} {g : Heap} {L a : Addr} {i : Nat} {vals : List (Option Value)} {own : List (Addr × Obj)}
  {fa : Nat → Addr} {mg mb : Str → Option Value} {n : Str} {cd : Value} {pos : Pos} {sco : Scope} {env : Env} {ns : List Str}
noncomputable abbrev tup (u v : Value) : Obj := { cls := .type "tuple", data := .seq #[u, v] }
theorem ok6 : DefOk 6 := by decide +kernel
theorem div_spec {R : Result → Shared → Prop} {x b n : Int} {tx tb tn : Tok} (B : Base fa mg mb h) (hroom : A.depth < recursionLimit) (hb : b ≠ 0) (hb2 : b.natAbs < 2 ^ 1000) (hx : (Builtin.Int.intBits x : Int) - n ≤ 4000)
    (k : ∀ h' t' T u v, Keep h h' → h.objs.size ≤ T → h'.get? T = some (tup (.int (x.fdiv b) u) (.int (x.fmod b) v)) → R (.ok (.ret (.ref T))) ⟨h', gn, d, t', os⟩) :
    codeAny (model pg w) A (.call (.ref (fa 6)) ⟨[.int x tx, .int b tb, .int n tn], []⟩) R ⟨h, gn, d, t, os⟩ := by
  refine enter B (by decide) ok6 hroom (fun _ _ _ => by kernel_rfl) fun L cd h₁ t₁ ht₁ hL₁ S => ?_
  refine wpAny_execs_cons (wpAny_If (wpAny_isTrue_Compare1 (wpAny_BinOp (MethodCall_ (r_loc S v6_a rfl (getMethod_int_bit_length (callWith_method0 (call_int_bit_length ?_))))))))
  obtain ⟨tl, hlim⟩ := B.lim
  refine r_loc S v6_n rfl (o_sub fun u₁ t₂ => ?_)
  refine Name_function_global (by rfl) g6__DIV_LIMIT.1 (loadGlobal_global (B.gns.keeps S.keep) hlim (P.le_int (wpAny_truthy_bool ?_))) (by rfl)
  rw [if_pos (by simpa using hx)]
  refine wpAny_execs_cons (wpAny_Return_some ?_)
  refine Call_ (r_bt S B g6_divmod b_divmod (cw_bt (acons (r_loc S v6_a rfl (acons (r_loc S v6_b rfl (anil ?_)))))))
  refine o_divmod hb (noPy hb2) fun u v t₃ => ?_
  refine k _ _ h₁.objs.size u v (fun b o e => Heap.get?_push_of_some _ (S.keep b o e)) ?_ (Heap.get?_push_size _ rfl)
  exact Nat.le_trans hL₁ (Nat.le_of_lt S.isNs.lt)

theorem args2 {i : Nat} {P : PySem.Arg → Prop} (e : (pr i).args = [(pr i).args[0]!, (pr i).args[1]!]) (h0 : P (pr i).args[0]!) (h1 : P (pr i).args[1]!) : ∀ x ∈ (pr i).args, P x := by
  intro x hx
  rw [e] at hx
  rcases List.mem_cons.mp hx with rfl | hx
  · exact h0
  · rw [List.mem_singleton.mp hx]; exact h1

theorem d2i_spec {R : Result → Shared → Prop} {D P cc : Addr} {o : Obj} {its : Array Value} {ds : List Int} {n : Nat} {tn : Tok} {τ rest : List (Addr × Obj)} (B : Base fa mg mb g) (I : InD fa mg g 9 cc P) (hT : TabO P idf9.2.2.2.2 q9 τ) (O : Ow g (τ ++ rest) h)
    (hroom : A.depth + 20 < recursionLimit) (hDm : (D, o) ∈ rest) (hl : IsLst o its) (hi : IntsAre its.toList ds) (hr : ∀ z ∈ ds, 0 ≤ z ∧ z < 2 ^ n) (h3 : ds.length ≤ 10000) (hn : n ≤ 1000)
    (k : ∀ h' t' tk τ', Ow g (τ' ++ rest) h' → TabO P idf9.2.2.2.2 q9 τ' → R (.ok (.ret (.int (val n ds) tk))) ⟨h', gn, d, t', os⟩) :
    codeAny (model pg w) A (.call (.ref (fa 9)) ⟨[.ref D, .int (n : Int) tn], []⟩) R ⟨h, gn, d, t, os⟩ := by
  refine enterK [] (I.keeps O.keep) (B.nolimit.keeps O.keep) (by lia) ⟨by decide, by decide, by decide⟩ (fun _ _ _ => by kernel_rfl) ?_ ?_ (by rfl) fun L h₁ t₁ hL₁ S0 X => ?_
  · intro L
    exact args2 (by rfl) (.inr ⟨by rfl, by rfl⟩) (.inr ⟨by rfl, by rfl⟩)
  · intro L cd
    funext y
    have e : slot (lc 9) [] y = none := by unfold slot; simp
    rw [e]; rfl
  have hnew : ∀ {c : Addr}, L < c → ∀ p ∈ τ ++ rest, p.1 ≠ c := fun hc p hp => Nat.ne_of_lt (Nat.lt_of_lt_of_le (Nat.lt_of_lt_of_le (Heap.lt_size (O.isOwn p hp).1) hL₁) (Nat.le_of_lt hc))
  have S := O.st S0
  have gN : ∀ {c : Addr}, L < c → g.get? c = none := fun hc => by
    cases hq : g.get? _ with
    | none => rfl
    | some o => exact absurd (Nat.lt_of_lt_of_le (Heap.lt_size (O.keep _ _ hq)) (Nat.le_trans hL₁ (Nat.le_of_lt hc))) (Nat.lt_irrefl _)
  obtain ⟨o1, ho1, S⟩ := S.addCell (c := L + 1) (v := some (.ref D)) (X.cell "digits" _ (by rfl)) (by show L + 1 ≠ L; lia) (gN (by show L < L + 1; lia)) (fun hm => by
    obtain ⟨p, hp, e⟩ := List.mem_map.mp hm; exact hnew (by show L < L + 1; lia) p hp e)
  obtain ⟨o2, ho2, S⟩ := S.addCell (c := L + 2) (v := some (.int (n : Int) tn)) (X.cell "n" _ (by rfl)) (by show L + 2 ≠ L; lia) (gN (by show L < L + 2; lia)) (fun hm => by
    obtain ⟨p, hp, e⟩ := List.mem_map.mp hm
    rcases List.mem_cons.mp hp with rfl | hp
    · have e' : L + 1 = L + 2 := e
      lia
    · exact hnew (by show L < L + 2; lia) p hp e)
  obtain ⟨o3, ho3, S⟩ := S.addCell (c := L + 3) (v := none) (X.cell "inner" _ (by rfl)) (by show L + 3 ≠ L; lia) (gN (by show L < L + 3; lia)) (fun hm => by
    obtain ⟨p, hp, e⟩ := List.mem_map.mp hm
    rcases List.mem_cons.mp hp with rfl | hp
    · have e' : L + 2 = L + 3 := e
      lia
    rcases List.mem_cons.mp hp with rfl | hp
    · have e' : L + 1 = L + 3 := e
      lia
    · exact hnew (by show L < L + 3; lia) p hp e)
  clear X
  have S₁ := S.perm (own' := τ ++ ((L + 3, o3) :: (L + 2, o2) :: (L + 1, o1) :: rest)) (List.perm_append_comm_assoc τ [(L + 3, o3), (L + 2, o2), (L + 1, o1)] rest)
  refine wpAny_execs_cons (def_stmt (make_fn (P := P) (c := cc) (clos := cl9 L) S₁ hT I.hd I.ba B.gns (by rfl) rfl rfl fun f fo cdv ct doc pm h₂ t₂ τ' S₂ hfo hT' hcr => ?_))
  have hfo : fo.data = .func (fnX idf9.1 q9 idf9.2.1 idf9.2.2.1 s9 (cl9 L) .none .none doc pm none cdv ct) := hfo
  refine r_stC (c := L + 3) (pre := (f, fo) :: τ') (post := (L + 2, o2) :: (L + 1, o1) :: rest) S₂ ho3 (by rfl) (by rfl) (by rfl) fun h₃ o3' ho3' S₃ => ?_
  have hcr₃ : h₃.CodeRec cdv q9 := by
    obtain ⟨c', oc, vs, tt, rfl, hm, hoc, hvs⟩ := hcr
    exact ⟨c', oc, vs, tt, rfl, (S₃.isOwn (c', oc) (by simp [hm])).1, hoc, hvs⟩
  have hDi : h₃.IsList D its := ⟨o, (S₃.isOwn (D, o) (by simp [hDm])).1, hl⟩
  refine wpAny_execs_cons (wpAny_Return_some (wpAny_IfExp (isTrue_plain ?_)))
  refine r_ldC (c := L + 1) (o := o1) S₃ (by simp) ho1 (by rfl) (by rfl) (by rfl) (by rfl) (wpAny_truthy_list (s := ⟨h₃, gn, d, t₂, os⟩) hDi ?_ ?_)
  · have := ints_len hi
    rw [Array.length_toList] at this
    lia
  have hsz : its.size = ds.length := by have := ints_len hi; simpa using this
  have fin : ∀ {h'}, Keep h₃ h' → Ow g (τ' ++ rest) h' := fun hk => ((S₃.keeps hk).toOw).drop (.cons _ (List.Sublist.append (.refl _) (.cons _ (.cons _ (.cons _ (.refl _))))))
  by_cases h0 : ds = []
  · have e0 : its.isEmpty = true := by rw [Array.isEmpty_iff_size_eq_zero, hsz, h0]; rfl
    rw [e0]
    refine c_int fun t₃ => ?_
    rw [h0] at k
    exact k _ _ _ τ' (fin fun _ _ e => e) hT'
  · have e0 : its.isEmpty = false := by
      cases hq : its.isEmpty with
      | false => rfl
      | true =>
        rw [Array.isEmpty_iff_size_eq_zero, hsz] at hq
        exact absurd (List.length_eq_zero_iff.mp hq) h0
    rw [e0]
    refine Call_ (r_ldC (c := L + 3) (o := o3') S₃ (by simp) ho3' (by rfl) (by rfl) (by rfl) (by rfl) ?_)
    refine callee (g := h₃) (S₃.isOwn (f, fo) (by simp)).1 hfo (acons (c_int fun t₃ => acons ?_))
    refine Call_ (r_bt S₃ B g9_len b_len ?_)
    refine cw_bt (acons (r_ldC (c := L + 1) (o := o1) S₃ (by simp) ho1 (by rfl) (by rfl) (by rfl) (by rfl) (anil ?_)))
    refine o_len_list hDi (by lia) fun u₁ t₄ => anil ⟨fun _ _ e => e, wpAny_call ?_⟩
    rw [hsz]
    refine inB_spec (L0 := L) (tn := tn) (D := D) hi hr h3 hn hfo 14 (lo := 0) (by show A.depth + 1 + 14 + 2 < _; lia) ((B.nolimit).keeps S₃.keep) (S₃.isOwn (f, fo) (by simp)).1 hcr₃
      ⟨o2, (S₃.isOwn (L + 2, o2) (by simp)).1, ho2⟩ ⟨o1, (S₃.isOwn (L + 1, o1) (by simp)).1, ho1⟩ ⟨o3', (S₃.isOwn (L + 3, o3') (by simp)).1, ho3'⟩ hDi (List.length_pos_iff.mpr h0) (Nat.le_refl _) (by lia) fun h₄ t₅ tk₁ hk₄ => ?_
    have e : (ds.take ds.length).drop 0 = ds := by rw [List.take_length, List.drop_zero]
    rw [e]
    exact k _ _ _ τ' (fin hk₄) hT'
end
end Mine
end
-- part M27
section
set_option maxRecDepth 100000
set_option linter.unusedVariables false
set_option maxHeartbeats 4000000
namespace Mine
open PyProof PySem PySem.Calls PyProof.Rows PySem.W PySem.W.X

section
variable {w : World} {A : Around} {E : Value → Shared → Prop} {h h' : Heap} {gn : Array GenState} {d : Drawn} {t : Nat} {os : OsState} {g : Heap} {L a : Addr} {i : Nat} {vals : List (Option Value)} {own : List (Addr × Obj)}
  {fa : Nat → Addr} {mg mb : Str → Option Value} {n : Str} {cd : Value} {pos : Pos} {sco : Scope} {env : Env} {ns : List Str}
theorem n_fdiv {x y : Nat} {t1 t2 : Tok} {Q : Value → Shared → Prop} (h0 : y ≠ 0) (hy : y ≤ 1000000) (c : ∀ tk t', Q (.int ((x / y : Nat) : Int) tk) ⟨h, gn, d, t', os⟩) : wpAny (model pg w) A (binaryOp .FloorDiv (.int (x : Int) t1) (.int (y : Int) t2)) Q E ⟨h, gn, d, t, os⟩ :=
  o_fdiv (by lia) (PyProof.noPylong_small (by lia)) fun tk t' => by
    rw [Int.fdiv_eq_ediv_of_nonneg _ (Int.natCast_nonneg _), ← Int.natCast_ediv]; exact c tk t'
theorem own3 {L : Nat} {rest : List (Addr × Obj)} {v1 v2 v3 : Option Value} {h₁ : Heap} (O : Ow g rest h) (hL₁ : h.objs.size ≤ L) (S0 : St h L ns vals [] h₁) (c1 : h₁.IsCell (L + 1) v1) (c2 : h₁.IsCell (L + 2) v2) (c3 : h₁.IsCell (L + 3) v3) :
    ∃ o1 o2 o3, o1.data = .cell v1 ∧ o2.data = .cell v2 ∧ o3.data = .cell v3 ∧ St g L ns vals ((L + 3, o3) :: (L + 2, o2) :: (L + 1, o1) :: rest) h₁ := by
  have hnew : ∀ {c : Nat}, L < c → ∀ p ∈ rest, p.1 ≠ c := fun hc p hp => Nat.ne_of_lt (Nat.lt_of_lt_of_le (Nat.lt_of_lt_of_le (Heap.lt_size (O.isOwn p hp).1) hL₁) (Nat.le_of_lt hc))
  have S := O.st S0
  have gN : ∀ {c : Nat}, L < c → g.get? c = none := fun hc => by
    cases hq : g.get? _ with
    | none => rfl
    | some o => exact absurd (Nat.lt_of_lt_of_le (Heap.lt_size (O.keep _ _ hq)) (Nat.le_trans hL₁ (Nat.le_of_lt hc))) (Nat.lt_irrefl _)
  obtain ⟨o1, ho1, S⟩ := S.addCell (c := L + 1) c1 (by show L + 1 ≠ L; lia) (gN (by show L < L + 1; lia)) (fun hm => by
    obtain ⟨p, hp, e⟩ := List.mem_map.mp hm; exact hnew (by show L < L + 1; lia) p hp e)
  obtain ⟨o2, ho2, S⟩ := S.addCell (c := L + 2) c2 (by show L + 2 ≠ L; lia) (gN (by show L < L + 2; lia)) (fun hm => by
    obtain ⟨p, hp, e⟩ := List.mem_map.mp hm
    rcases List.mem_cons.mp hp with rfl | hp
    · have e' : L + 1 = L + 2 := e
      lia
    · exact hnew (by show L < L + 2; lia) p hp e)
  obtain ⟨o3, ho3, S⟩ := S.addCell (c := L + 3) c3 (by show L + 3 ≠ L; lia) (gN (by show L < L + 3; lia)) (fun hm => by
    obtain ⟨p, hp, e⟩ := List.mem_map.mp hm
    rcases List.mem_cons.mp hp with rfl | hp
    · have e' : L + 2 = L + 3 := e
      lia
    rcases List.mem_cons.mp hp with rfl | hp
    · have e' : L + 1 = L + 3 := e
      lia
    · exact hnew (by show L < L + 3; lia) p hp e)
  exact ⟨o1, o2, o3, ho1, ho2, ho3, S⟩

theorem i2d_spec {R : Result → Shared → Prop} {P cc : Addr} {x n : Nat} {tx tn : Tok} {τ rest : List (Addr × Obj)} (B : Base fa mg mb g) (I : InD fa mg g 8 cc P) (hT : TabO P idf8.2.2.2.2 q8 τ) (O : Ow g (τ ++ rest) h)
    (hA : A.handled = none) (hroom : A.depth + 20 < recursionLimit) (hxb : Builtin.Int.intBits (x : Int) ≤ 9000) (hn : n ≤ 1000) (hn0 : n ≠ 0)
    (k : ∀ h' t' D o its ds τ', Ow g ((D, o) :: (τ' ++ rest)) h' → TabO P idf8.2.2.2.2 q8 τ' → IsLst o its → IntsAre its.toList ds → (∀ z ∈ ds, 0 ≤ z ∧ z < 2 ^ n) → val n ds = (x : Int) → ds.length ≤ 10000 → R (.ok (.ret (.ref D))) ⟨h', gn, d, t', os⟩) :
    codeAny (model pg w) A (.call (.ref (fa 8)) ⟨[.int (x : Int) tx, .int (n : Int) tn], []⟩) R ⟨h, gn, d, t, os⟩ := by
  refine enterK [some (.int (x : Int) tx)] (I.keeps O.keep) (B.nolimit.keeps O.keep) (by lia) ⟨by decide, by decide, by decide⟩ (fun _ _ _ => by kernel_rfl) ?_ ?_ (by rfl) fun L h₁ t₁ hL₁ S0 X => ?_
  · intro L
    exact args2 (by rfl) (.inl (by rfl)) (.inr ⟨by rfl, by rfl⟩)
  · intro L cd
    have e : bindL (envOfC (nm 8) (sc 8) L (fa 8) cd).kindOf (((pr 8).args.map (·.arg)).zip [Value.int (x : Int) tx, Value.int (n : Int) tn]) (fun _ => none) = fun y : Str => if y = ("a" : Str) then some (Value.int (x : Int) tx) else none := by rfl
    have e2 : lc 8 = [("a" : Str)] := by decide +kernel
    rw [e, e2]
    funext y
    unfold slot idx
    by_cases h1 : y = ("a" : Str)
    · rw [if_pos h1, if_pos h1]; rfl
    · rw [if_neg h1, if_neg h1]; rfl
  obtain ⟨o1, o2, o3, ho1, ho2, ho3, S⟩ := own3 O hL₁ S0 (X.cell "n" _ (by rfl)) (X.cell "a_digits" _ (by rfl)) (X.cell "inner" _ (by rfl))
  clear X S0
  have hxl := bits_lt x
  generalize hbb : Builtin.Int.intBits (x : Int) = bb at *
  refine wpAny_execs_cons (wpAny_Assign_Name (wpAny_BinOp (List_ (acons (c_int fun t₂ => anil ?_)))))
  refine new_list (le_line (by show 1 ≤ _; lia)) ?_
  have S₁ : St g L (lc 8) _ _ (h₁.push (lst [Value.int 0 t₁].toArray 0)) := S.keeps fun b o e => Heap.get?_push_of_some _ e
  refine wpAny_BinOp (wpAny_BinOp (wpAny_BinOp (MethodCall_ (r_loc S₁ v8_a rfl (getMethod_int_bit_length (callWith_method0 (call_int_bit_length ?_)))))))
  rw [hbb]
  refine r_ldC (c := L + 1) (o := o1) S₁ (by simp) ho1 (by rfl) (by rfl) (by rfl) (by rfl) (n_add fun u₁ t₃ => c_int fun t₄ => n_sub (y := 1) (by lia) fun u₂ t₅ => ?_)
  refine r_ldC (c := L + 1) (o := o1) S₁ (by simp) ho1 (by rfl) (by rfl) (by rfl) (by rfl) (n_fdiv hn0 (by lia) fun u₃ t₆ => ?_)
  have hm1 : bb ≤ n * ((bb + n - 1) / n) := by
    have := Nat.lt_mul_div_succ (bb + n - 1) (Nat.pos_of_ne_zero hn0)
    rw [Nat.mul_add, Nat.mul_one] at this
    lia
  have hm2 : (bb + n - 1) / n ≤ 10000 := Nat.le_trans (Nat.div_le_self _ _) (by lia)
  have hm3 : bb = 0 → (bb + n - 1) / n = 0 := fun e => by rw [e]; exact Nat.div_eq_of_lt (by lia)
  generalize (bb + n - 1) / n = m at *
  refine o_rep S₁ (Heap.get?_push_size _ rfl) (by lia) fun its h₂ hits S₂ => ?_
  generalize (h₁.push (lst [Value.int 0 t₁].toArray 0)).objs.size = D at S₂ ⊢
  refine r_stC (c := L + 2) (pre := [(D, lst its 0), (L + 3, o3)]) (post := (L + 1, o1) :: (τ ++ rest)) S₂ ho2 (by rfl) (by rfl) (by rfl) fun h₃ o2' ho2' S₃ => ?_
  have S₄ := S₃.perm (own' := τ ++ ((D, lst its 0) :: (L + 3, o3) :: (L + 2, o2') :: (L + 1, o1) :: rest)) (List.perm_append_comm_assoc τ [(D, lst its 0), (L + 3, o3), (L + 2, o2'), (L + 1, o1)] rest)
  refine wpAny_execs_cons (def_stmt (make_fn (P := P) (c := cc) (clos := cl8 L) S₄ hT I.hd I.ba B.gns (by rfl) rfl rfl fun f fo cdv ct doc pm h₅ t₇ τ' S₅ hfo hT' hcr => ?_))
  have hfo : fo.data = .func (fnX idf8.1 q8 idf8.2.1 idf8.2.2.1 s8 (cl8 L) .none .none doc pm none cdv ct) := hfo
  refine r_stC (c := L + 3) (pre := (f, fo) :: (τ' ++ [(D, lst its 0)])) (post := (L + 2, o2') :: (L + 1, o1) :: rest) (by simpa using S₅) ho3 (by rfl) (by rfl) (by rfl) fun h₆ o3' ho3' S₆ => ?_
  have hDi : h₆.IsList D its := isList_of (S₆.isOwn (D, lst its 0) (by simp)).1
  have hints : IntsAre its.toList (List.replicate m 0) := by rw [hits]; exact ints_rep 0 _ m
  refine wpAny_execs_cons (wpAny_If (isTrue_plain (r_loc S₆ v8_a rfl (PySem.P.truthy_int ?_))))
  have fin : ∀ {h' o' its' ds'}, St g L (lc 8) [some (.int (x : Int) tx)] (((f, fo) :: τ') ++ (D, o') :: ((L + 3, o3') :: (L + 2, o2') :: (L + 1, o1) :: rest)) h' → IsLst o' its' → IntsAre its'.toList ds' → (∀ z ∈ ds', 0 ≤ z ∧ z < 2 ^ n) → val n ds' = (x : Int) → ds'.length ≤ 10000 →
      ∀ t, wpAny (model pg w) (A.deeper (envOfC (nm 8) (sc 8) L (fa 8) (.ref cc))) (execs [(bd 8)[3]!] (envOfC (nm 8) (sc 8) L (fa 8) (.ref cc))) (fun f s' => R (.ok (.ret (match f with | .ret v => v | _ => .none))) s') (fun _ _ => False) ⟨h', gn, d, t, os⟩ := by
    intro h' o' its' ds' S' h1 h2 h3 h4 h5 t
    refine wpAny_execs_cons (wpAny_Return_some (r_ldC (c := L + 2) (o := o2') S' (by simp) ho2' (by rfl) (by rfl) (by rfl) (by rfl) ?_))
    refine k _ _ D o' its' ds' τ' (((S'.toOw).perm (own' := (D, o') :: ((f, fo) :: τ') ++ ((L + 3, o3') :: (L + 2, o2') :: (L + 1, o1) :: rest)) ?_).drop ?_) hT' h1 h2 h3 h4 h5
    · exact List.perm_middle.symm
    · exact .cons_cons _ (.cons _ (List.Sublist.append (.refl _) (.cons _ (.cons _ (.cons _ (.refl _))))))
  by_cases hx0 : x = 0
  · rw [if_neg (by simp [hx0])]
    refine wpAny_execs_nil ?_
    have hbz : bb = 0 := by rw [← hbb, hx0]; rfl
    have hmz := hm3 hbz
    rw [hmz] at hints
    refine fin (o' := lst its 0) (by simpa using S₆) ⟨rfl, _, rfl⟩ hints (fun z hz => by simp at hz) (by simp [val, hx0]) (by simp) _
  · rw [if_pos (by simpa using hx0)]
    have hmp : 0 < m := by
      rcases Nat.eq_zero_or_pos m with e | e
      · rw [e] at hm1
        have hbz : bb = 0 := by lia
        rw [hbz] at hxl
        lia
      · exact e
    have S₇ : St g L (lc 8) [some (.int (x : Int) tx)] (((f, fo) :: τ') ++ (D, lst its 0) :: ((L + 3, o3') :: (L + 2, o2') :: (L + 1, o1) :: rest)) h₆ := by simpa using S₆
    refine wpAny_execs_cons (wpAny_Expr (Call_ (r_ldC (c := L + 3) (o := o3') S₇ (by simp) ho3' (by rfl) (by rfl) (by rfl) (by rfl) ?_)))
    refine callee (g := h₆) (S₇.isOwn (f, fo) (by simp)).1 hfo (acons (r_loc S₇ v8_a rfl (acons (c_int fun t₈ => acons ?_))))
    refine Call_ (r_bt S₇ B g8_len b_len ?_)
    refine cw_bt (acons (r_ldC (c := L + 2) (o := o2') S₇ (by simp) ho2' (by rfl) (by rfl) (by rfl) (by rfl) (anil ?_)))
    have hsz : its.size = m := by rw [← Array.length_toList, hits, List.length_replicate]
    refine o_len_list hDi (by lia) fun u₄ t₉ => anil ⟨fun _ _ e => e, wpAny_call ?_⟩
    rw [hsz]
    obtain ⟨O', gG, hback⟩ := ((S₇.toOw).drop (own' := [(D, lst its 0)]) (by simp)).solo
    have hG : ∀ p ∈ (((f, fo) :: τ') ++ (D, lst its 0) :: ((L + 3, o3') :: (L + 2, o2') :: (L + 1, o1) :: rest)), p.2.data ≠ .seq its 0 → (hide h₆ [D]).get? p.1 = some p.2 := fun p hp hne => by
      rw [hide_get, if_neg, (S₇.isOwn p hp).1]
      intro hm
      have e := (S₇.isOwn p hp).1
      rw [List.mem_singleton.mp hm, (S₇.isOwn (D, lst its 0) (by simp)).1] at e
      exact hne (by rw [← Option.some.inj e])
    obtain ⟨c', oc, vs, tt, rfl, hcm, hoc, hvs⟩ := hcr
    have rangeOk : (List.replicate m (0 : Int)).length = m := List.length_replicate
    refine inA_spec (L0 := L) (D := D) (f := f) (fo := fo) (n := n) (tn := tn) 14 (lo := 0) hA (by show A.depth + 1 + 14 + 2 < _; lia) O' ((B.nolimit).keeps gG) (hG (f, fo) (by simp) (by rw [hfo]; simp)) hfo
      ⟨c', oc, vs, tt, rfl, hG (c', oc) (by simp [hcm]) (by rw [hoc]; simp), hoc, hvs⟩
      ⟨o1, hG (L + 1, o1) (by simp) (by rw [ho1]; simp), ho1⟩ ⟨o2', hG (L + 2, o2') (by simp) (by rw [ho2']; simp), ho2'⟩ ⟨o3', hG (L + 3, o3') (by simp) (by rw [ho3']; simp), ho3'⟩
      ⟨rfl, _, rfl⟩ hints hmp (by lia) (by lia) (by lia) (Nat.lt_of_lt_of_le hxl (Nat.pow_le_pow_right (by decide) (by simpa using hm1))) hn fun h₇ t₁₀ o' its' mid hk₇ hD₇ hl₇ hi₇ hml hmr hmv => ?_
    have S₈ := S₇.updX hk₇ hD₇
    refine wpAny_execs_nil ?_
    have e : List.take 0 (List.replicate m (0 : Int)) ++ mid ++ List.drop m (List.replicate m (0 : Int)) = mid := by simp
    rw [e] at hi₇
    exact fin S₈ hl₇ hi₇ hmr hmv (by lia) _
end
end Mine
end
-- part M28
section
set_option maxRecDepth 100000
set_option linter.unusedVariables false
set_option maxHeartbeats 4000000
namespace Mine
open PyProof PySem PySem.Calls PyProof.Rows PySem.W PySem.W.X

theorem ints_snoc {vs : List Value} {ns : List Int} {z : Int} {tk : Tok} (h : IntsAre vs ns) : IntsAre (vs ++ [.int z tk]) (ns ++ [z]) := by
  induction h with
  | nil => exact .cons z tk .nil
  | cons y u _ ih => exact .cons y u ih
theorem ints_rev {vs : List Value} {ns : List Int} (h : IntsAre vs ns) : IntsAre vs.reverse ns.reverse := by
  induction h with
  | nil => exact .nil
  | cons y u _ ih => rw [List.reverse_cons, List.reverse_cons]; exact ints_snoc ih
/-- one step of the long division -/
theorem div_step {n : Nat} {r b x : Int} (hb : 0 < b) (hbn : b < 2 ^ n) (hr0 : 0 ≤ r) (hr1 : r < b) (hx0 : 0 ≤ x) (hx1 : x < 2 ^ n) :
    0 ≤ (r * 2 ^ n + x).fdiv b ∧ (r * 2 ^ n + x).fdiv b < 2 ^ n ∧ 0 ≤ (r * 2 ^ n + x).fmod b ∧ (r * 2 ^ n + x).fmod b < b ∧ b * (r * 2 ^ n + x).fdiv b + (r * 2 ^ n + x).fmod b = r * 2 ^ n + x ∧ 0 ≤ r * 2 ^ n + x ∧ r * 2 ^ n + x < b * 2 ^ n := by
  have hp : (0 : Int) < 2 ^ n := Int.lt_of_le_of_lt (Int.le_of_lt hb) hbn
  have a1 : (r + 1) * 2 ^ n ≤ b * 2 ^ n := Int.mul_le_mul_of_nonneg_right hr1 (Int.le_of_lt hp)
  rw [Int.add_mul, Int.one_mul] at a1
  have a2 : 0 ≤ r * 2 ^ n := Int.mul_nonneg hr0 (Int.le_of_lt hp)
  have hy0 : 0 ≤ r * 2 ^ n + x := by lia
  have hy1 : r * 2 ^ n + x < b * 2 ^ n := by
    generalize (2 : Int) ^ n = p at *
    generalize r * p = u at *
    generalize b * p = v at *
    lia
  rw [Int.fdiv_eq_ediv_of_nonneg _ (Int.le_of_lt hb), Int.fmod_eq_emod_of_nonneg _ (Int.le_of_lt hb)]
  refine ⟨Int.ediv_nonneg hy0 (Int.le_of_lt hb), Int.ediv_lt_of_lt_mul hb (by rw [Int.mul_comm (2 ^ n)]; exact hy1), Int.emod_nonneg _ (by lia), Int.emod_lt_of_pos _ hb, Int.mul_ediv_add_emod _ _, hy0, hy1⟩

section
variable {w : World} {A : Around} {E : Value → Shared → Prop} {h h' : Heap} {gn : Array GenState} {d : Drawn} {t : Nat} {os : OsState} {g : Heap} {L a : Addr} {i : Nat} {vals : List (Option Value)} {own : List (Addr × Obj)}
  {fa : Nat → Addr} {mg mb : Str → Option Value} {n : Str} {cd : Value} {pos : Pos} {sco : Scope} {env : Env} {ns : List Str}
theorem ints_at {vs : List Value} {ns : List Int} (h : IntsAre vs ns) {k : Nat} {v : Value} (hv : vs[k]? = some v) : ∃ tk, v = .int (ns.getD k 0) tk := by
  have hk : k < ns.length := by rw [← ints_len h]; exact (List.getElem?_eq_some_iff.mp hv).1
  obtain ⟨tk, e⟩ := ints_get h hk
  exact ⟨tk, Option.some.inj (hv.symm.trans e)⟩
theorem ok10 : DefOk 10 := by decide +kernel
theorem do_reverse {E' : Addr} {its : Array Value} {nn : Nat} {pre post : List (Addr × Obj)} {Q : Value → Shared → Prop} (S : St g L ns vals (pre ++ (E', lst its nn) :: post) h) (hz : its.size ≤ sizeLine)
    (c : ∀ h', St g L ns vals (pre ++ (E', lst its.toList.reverse.toArray nn) :: post) h' → Q .none ⟨h', gn, d, t, os⟩) : wpAny (model pg w) A (call (.builtin "list.reverse") [.ref E']) Q E ⟨h, gn, d, t, os⟩ := by
  have ho := (S.isOwn (E', lst its nn) (by simp)).1
  refine call_meets (s := ⟨h, gn, d, t, os⟩) PySem.F.slot_list_reverse ⟨_, ho, rfl⟩ PySem.F.entry_list_reverse (PySem.F.args_list_reverse_1 _) (AutoSeq1.list_reverse_list_0 E' its nn hz) ⟨ho, ?_⟩
  refine c _ (S.upd (Heap.SameBut.update ..) ?_)
  rw [Heap.get?_update_self _ ho (by rw [mapSeq_reverse]; rfl), mapSeq_reverse]

theorem pos_spec {R : Result → Shared → Prop} {P8 c8 P9 c9 : Addr} {x b : Nat} {tx tb : Tok} {τ8 τ9 rest : List (Addr × Obj)} (B : Base fa mg mb g) (I8 : InD fa mg g 8 c8 P8) (I9 : InD fa mg g 9 c9 P9)
    (T8 : TabO P8 idf8.2.2.2.2 q8 τ8) (T9 : TabO P9 idf9.2.2.2.2 q9 τ9) (O : Ow g (τ8 ++ (τ9 ++ rest)) h)
    (hA : A.handled = none) (hroom : A.depth + 30 < recursionLimit) (hxb : Builtin.Int.intBits (x : Int) ≤ 9000) (hb0 : b ≠ 0) (hbb : Builtin.Int.intBits (b : Int) ≤ 1000)
    (k : ∀ h' t' T u v τ8' τ9', Ow g ((T, tup (.int ((x / b : Nat) : Int) u) (.int ((x % b : Nat) : Int) v)) :: (τ8' ++ (τ9' ++ rest))) h' → TabO P8 idf8.2.2.2.2 q8 τ8' → TabO P9 idf9.2.2.2.2 q9 τ9' → R (.ok (.ret (.ref T))) ⟨h', gn, d, t', os⟩) :
    codeAny (model pg w) A (.call (.ref (fa 10)) ⟨[.int (x : Int) tx, .int (b : Int) tb], []⟩) R ⟨h, gn, d, t, os⟩ := by
  refine enter (B.keeps O.keep) (by decide) ok10 (by lia) (fun _ _ _ => by kernel_rfl) fun L cd h₁ t₁ ht₁ hL₁ S0 => ?_
  have S : St g L (lc 10) [some (.int (x : Int) tx), some (.int (b : Int) tb), none, none, none, none, none, none, none] (τ8 ++ (τ9 ++ rest)) h₁ := O.st S0
  clear S0
  have hbn := bits_lt b
  have hn0 : Builtin.Int.intBits (b : Int) ≠ 0 := fun e => by rw [e] at hbn; lia
  have hb2 : (b : Int).natAbs < 2 ^ 1000 := Nat.lt_of_lt_of_le (by simpa using hbn) (Nat.pow_le_pow_right (by decide) hbb)
  refine wpAny_execs_cons (wpAny_Assign_Name (MethodCall_ (r_loc S v10_b rfl (getMethod_int_bit_length (callWith_method0 (call_int_bit_length ?_))))))
  generalize Builtin.Int.intBits (b : Int) = n at *
  refine r_st S v10_n fun h₂ t₂ S₂ _ => ?_
  refine wpAny_execs_cons (wpAny_Assign_Name (Call_ (r_fn S₂ B g10__int2digits (by decide) ?_)))
  refine call_fn B (by decide) (acons (r_loc S₂ v10_a rfl (acons (r_loc S₂ v10_n rfl (anil ⟨S₂.keep, wpAny_call ?_⟩)))))
  obtain ⟨oL, OO, back⟩ := S₂.ow
  refine i2d_spec (τ := τ8) (rest := (τ9 ++ rest) ++ [(L, oL)]) B I8 T8 (by simpa [List.append_assoc] using OO) hA (by show A.depth + 1 + 20 < _; lia) hxb hbb hn0 fun h₃ t₃ D oD its ds τ8' O₃ T8' hDl hints hrange hval hlen => ?_
  have S₃ := back ((D, oD) :: (τ8' ++ (τ9 ++ rest))) h₃ (by simpa [List.append_assoc] using O₃)
  clear OO back O₃
  refine r_st S₃ v10_a_digits fun h₄ t₄ S₄ _ => ?_
  refine wpAny_execs_cons (wpAny_Assign_Name (c_int fun t₅ => r_st S₄ v10_r fun h₅ t₆ S₅ _ => ?_))
  refine wpAny_execs_cons (wpAny_Assign_Name (List_ (anil ?_)))
  refine new_list (le_line (by show 0 ≤ _; lia)) ?_
  have S₆ := S₅.push (lst #[] 0)
  generalize h₅.objs.size = E' at S₆
  refine r_st S₆ v10_q_digits fun h₆ t₇ S₇ _ => ?_
  have hDne : E' ≠ D := fun e => by have := S₇.nd; simp [e] at this
  have hDh := S₇.isOwn (D, oD) (by simp)
  -- the digits' list now lies in the base
  have S₈ := (S₇.drop (own' := (E', lst #[] 0) :: (τ8' ++ (τ9 ++ rest))) (.cons_cons _ (.cons _ (.refl _))))
  have hG := S₈.below
  have hGD : (hide h₆ (L :: ((E', lst #[] 0) :: (τ8' ++ (τ9 ++ rest))).map (·.1))).get? D = some oD := by
    rw [hide_get, if_neg, hDh.1]
    intro hm
    rcases List.mem_cons.mp hm with e | hm
    · exact hDh.2.1 e
    · have := S₇.nd
      rw [List.map_cons, List.map_cons, List.nodup_cons, List.nodup_cons] at this
      rcases List.mem_cons.mp hm with e | hm
      · exact hDne e.symm
      · exact this.2.1 hm
  have S₉ := S₈.rebase
  generalize (hide h₆ (L :: ((E', lst #[] 0) :: (τ8' ++ (τ9 ++ rest))).map (·.1))) = G at *
  have BG := B.keeps hG
  refine wpAny_execs_cons (wpAny_For (Call_ (r_bt S₉ BG g10_reversed b_reversed ?_)))
  refine cw_type (acons (r_loc S₉ v10_a_digits rfl (anil ?_)))
  have hDi : h₆.IsList D its := ⟨oD, hDh.1, hDl⟩
  refine call_reversed_list (s := ⟨h₆, gn, d, t₇, os⟩) hDi ?_
  have hDlt : D < h₆.objs.size := Heap.lt_size hDh.1
  have W := Walks.listRev (prog := pg) (w := w) (A := A.deeper (envOf (nm 10) (sc 10) L (fa 10) cd)) hA h₆.objs.size D (Nat.ne_of_lt hDlt) its
  have hst : 0 ≤ its.size ∧ (h₆.push (revObj D ((its.size : Int) - 1))).IsRevIter h₆.objs.size D ((its.size : Int) - 1 - ((0 : Nat) : Int)) ∧ (h₆.push (revObj D ((its.size : Int) - 1))).IsList D its :=
    ⟨Nat.zero_le _, ⟨_, Heap.get?_push_size _ rfl, rfl, by simp [revObj]⟩, hDi.push _⟩
  refine W.self 0 ⟨h₆.push (revObj D ((its.size : Int) - 1)), gn, d, t₇, os⟩ _ _ hst ?_
  have S₁₀ : St G L _ _ _ (h₆.push (revObj D ((its.size : Int) - 1))) := S₉.keeps fun b o e => Heap.get?_push_of_some _ e
  have hsz : its.size = ds.length := by have := ints_len hints; simpa using this
  refine walk_for2 W v10_a_digit (fun j vals own => ∃ qits nn qs r tr v6 v7, vals = [some (.int (x : Int) tx), some (.int (b : Int) tb), some (.int (n : Nat) t₁), some (.ref D), some (.int r tr), some (.ref E'), v6, v7, none] ∧
      own = (E', lst qits nn) :: (τ8' ++ (τ9 ++ rest)) ∧ IntsAre qits.toList qs ∧ qs.length = j ∧ (∀ z ∈ qs, 0 ≤ z ∧ z < 2 ^ n) ∧ 0 ≤ r ∧ r < b ∧ val n (ds.drop (ds.length - j)) = (b : Int) * val n qs.reverse + r) ?_ ?_ ?_ S₁₀ hst ?_ ?_ ?_ ?_
  · intro j v vals own g₂ h₇ t₈ gn₁ hj hv hle hpat11 hg₂ heq13 S₁
    refine abs_q fun Q1 hQ1 => ?_
    obtain ⟨qits, nn, qs, r, tr, v6, v7, rfl, rfl, hq, hql, hqr, hr0, hr1, hval'⟩ := hpat11
    subst heq13
    have B₂ := BG.keeps hg₂
    have hjl : j < ds.length := by lia
    obtain ⟨ud, rfl⟩ := ints_at hints (k := its.size - 1 - j) (v := v) (by simpa using hv)
    have hqs : qits.size = j := by have := ints_len hq; rw [hql] at this; simpa using this
    have hdrop : ds.drop (ds.length - (j + 1)) = ds.getD (its.size - 1 - j) 0 :: ds.drop (ds.length - j) := by
      have hlt : ds.length - (j + 1) < ds.length := by lia
      rw [List.drop_eq_getElem_cons hlt]
      have e1 : ds.length - (j + 1) + 1 = ds.length - j := by lia
      have e2 : its.size - 1 - j = ds.length - (j + 1) := by lia
      rw [e1, e2, List.getD, List.getElem?_eq_getElem hlt]; rfl
    have hmem : ds.getD (its.size - 1 - j) 0 ∈ ds := by
      have hlt : its.size - 1 - j < ds.length := by lia
      rw [List.getD, List.getElem?_eq_getElem hlt]
      exact List.getElem_mem hlt
    obtain ⟨d0, d1⟩ := hrange _ hmem
    generalize ds.getD (its.size - 1 - j) 0 = dg at *
    have hbp : (0 : Int) < (b : Int) := by lia
    have hbn' : (b : Int) < 2 ^ n := by rw [pow_cast]; exact Int.ofNat_lt.mpr hbn
    obtain ⟨q0, q1, s0, s1, hdm, y0, y1⟩ := div_step hbp hbn' hr0 hr1 d0 d1
    have hrb := PyProof.Rows.intBits_le (a := r) (k := n) (by rw [pow_cast] at hbn'; lia)
    have hyb := PyProof.Rows.intBits_le (a := r * 2 ^ n + dg) (k := n + n) (by
      have hp : (0 : Int) < 2 ^ n := Int.lt_trans hbp hbn'
      have : (b : Int) * 2 ^ n ≤ 2 ^ n * 2 ^ n := Int.mul_le_mul_of_nonneg_right (Int.le_of_lt hbn') (Int.le_of_lt hp)
      rw [← Int.pow_add, pow_cast (n + n)] at this
      generalize (b : Int) * 2 ^ n = z at *
      generalize r * 2 ^ n + dg = y at *
      lia)
    refine wpAny_execs_cons (Assign_Tuple (Call_ (r_fn S₁ B₂ g10__div2n1n (by decide) ?_)))
    refine call_fn B₂ (by decide) (acons (wpAny_BinOp (wpAny_BinOp ?_)))
    refine r_loc S₁ v10_r rfl (r_loc S₁ v10_n rfl (o_shl (Int.natCast_nonneg _) (by lia) fun u₁ t₉ => ?_))
    rw [Int.toNat_natCast]
    refine r_loc S₁ v10_a_digit rfl (o_add fun u₂ t₁₀ => acons (r_loc S₁ v10_b rfl (acons (r_loc S₁ v10_n rfl (anil ⟨S₁.keep, wpAny_call ?_⟩)))))
    refine div_spec (B₂.keeps S₁.keep) (by show A.depth + 1 < _; lia) (by lia) hb2 (by lia) fun h₈ t₁₁ T u v hk₈ hT8 hT => ?_
    have S₂ := S₁.keeps hk₈
    refine asg2 hA S₂ ⟨_, hT, rfl, _, rfl⟩ v10_q_digit v10_r fun h₉ t₁₂ S₃ _ => ?_
    refine wpAny_execs_cons (wpAny_Expr (MethodCall_ (r_loc S₃ v10_q_digits rfl (gm_append (pre := []) S₃ (cw_meth (acons (r_loc S₃ v10_q_digit rfl (anil ?_))))))))
    refine do_append (pre := []) S₃ (le_line (by lia)) fun h₁₀ S₄ => ?_
    repeat refine wpAny_execs_nil ?_
    refine hQ1 _ _ (.inl ⟨rfl, _, _, _, _, _, rfl, rfl, S₄, _, _, qs ++ [(r * 2 ^ n + dg).fdiv b], _, _, _, _, rfl, rfl, ?_, by simp [hql], ?_, s0, s1, ?_⟩)
    · rw [Array.toList_push]; exact ints_snoc hq
    · intro z hz
      rcases List.mem_append.mp hz with hz | hz
      · exact hqr z hz
      · rw [List.mem_singleton.mp hz]; exact ⟨q0, q1⟩
    · rw [hdrop, List.reverse_append]
      show dg + 2 ^ n * val n (ds.drop (ds.length - j)) = (b : Int) * ((r * 2 ^ n + dg).fdiv b + 2 ^ n * val n qs.reverse) + _
      rw [hval', Int.mul_add, Int.mul_add, Int.mul_left_comm (2 ^ n : Int), Int.mul_comm (2 ^ n : Int) r]
      generalize (r * 2 ^ n + dg).fdiv b = q at *
      generalize (r * 2 ^ n + dg).fmod b = m at *
      generalize (b : Int) * (2 ^ n * val n qs.reverse) = z at *
      generalize (b : Int) * q = z2 at *
      generalize r * 2 ^ n = z3 at *
      lia
  · rintro vals own h₇ t₈ gn₁ ⟨qits, nn, qs, r, tr, v6, v7, rfl, rfl, hq, hql, hqr, hr0, hr1, hval'⟩ hle rfl S₁
    have hqs : qits.size = its.size := by have := ints_len hq; rw [hql] at this; simpa using this
    rw [hsz, Nat.sub_self, List.drop_zero, hval] at hval'
    have hbp : (0 : Int) < (b : Int) := by lia
    have hqv : val n qs.reverse = ((x / b : Nat) : Int) := by
      rw [Int.natCast_ediv, hval']
      rw [Int.add_comm, Int.add_mul_ediv_left _ _ (by lia), Int.ediv_eq_zero_of_lt hr0 hr1, Int.zero_add]
    have hrv : r = ((x % b : Nat) : Int) := by
      rw [Int.natCast_emod, hval', Int.add_comm, Int.add_mul_emod_self_left, Int.emod_eq_of_lt hr0 hr1]
    have S₂ := S₁.weaken hG
    refine wpAny_execs_cons (wpAny_Expr (MethodCall_ (r_loc S₂ v10_q_digits rfl ?_)))
    refine getMethod_list_of (items := qits) PySem.F.slot_list_reverse PySem.F.type_list_reverse (isList_of (S₂.isOwn _ (.head _)).1) ⟨_, (S₂.isOwn _ (.head _)).1, rfl⟩ (callWith_method0 ?_)
    refine do_reverse (pre := []) S₂ (le_line (by lia)) fun h₈ S₃ => ?_
    refine wpAny_execs_cons (wpAny_Assign_Name (Call_ (r_fn S₃ B g10__digits2int (by decide) ?_)))
    refine call_fn B (by decide) (acons (r_loc S₃ v10_q_digits rfl (acons (r_loc S₃ v10_n rfl (anil ⟨S₃.keep, wpAny_call ?_⟩)))))
    obtain ⟨oL, OO, back⟩ := S₃.ow
    have OO' : Ow g (τ9 ++ (((E', lst qits.toList.reverse.toArray nn) :: τ8') ++ (rest ++ [(L, oL)]))) h₈ := by
      refine OO.perm ?_
      have := List.perm_append_comm_assoc τ9 ((E', lst qits.toList.reverse.toArray nn) :: τ8') (rest ++ [(L, oL)])
      simpa [List.append_assoc] using this
    refine d2i_spec (τ := τ9) (D := E') (o := lst qits.toList.reverse.toArray nn) (its := qits.toList.reverse.toArray) B I9 T9 OO' (by show A.depth + 1 + 20 < _; lia) (by simp) ⟨rfl, _, rfl⟩ (by simpa using ints_rev hq) (fun z hz => hqr z (by simpa using hz)) (by rw [List.length_reverse]; lia) hbb fun h₉ t₉ tk τ9' O₄ T9' => ?_
    have S₄ := back ((E', lst qits.toList.reverse.toArray nn) :: (τ8' ++ (τ9' ++ rest))) h₉ (by
      refine O₄.perm ?_
      have := List.perm_append_comm_assoc ((E', lst qits.toList.reverse.toArray nn) :: τ8') τ9' (rest ++ [(L, oL)])
      simpa [List.append_assoc] using this)
    rw [hqv]
    refine r_st S₄ v10_q fun h₁₀ t₁₀ S₅ _ => ?_
    refine wpAny_execs_cons (wpAny_Return_some (Tuple_ (acons (r_loc S₅ v10_q rfl (acons (r_loc S₅ v10_r rfl (anil (new_tuple rfl ?_))))))))
    have S₆ := S₅.push (tup (.int ((x / b : Nat) : Int) tk) (.int r tr))
    rw [hrv] at S₆ ⊢
    exact k _ _ _ _ _ τ8' τ9' (S₆.toOw.drop (.cons_cons _ (.cons _ (.refl _)))) T8' T9'
  · refine ⟨#[], 0, [], 0, _, _, _, rfl, rfl, .nil, rfl, (fun z hz => by cases hz), Int.le_refl _, by lia, ?_⟩
    rw [Nat.sub_zero, List.drop_length]; simp [val]
  · have hLh := Nat.ne_of_lt S₉.isNs.lt
    have hLD := hDh.2.1
    simp only [List.mem_cons, List.not_mem_nil, or_false, not_or]
    exact ⟨hLh, fun e => hLD e.symm⟩
  · intro p hp
    have e1 := Nat.ne_of_lt (S₉.own_lt hp)
    have e2 : p.1 ≠ D := fun e => by have := (S₉.isOwn p hp).2.2; rw [e, hGD] at this; cases this
    simp only [List.mem_cons, List.not_mem_nil, or_false, not_or]
    exact ⟨e1, e2⟩
  · intro b hb
    rw [List.mem_singleton.mp hb]; exact S₉.fresh
  · rintro k h ⟨_, ⟨o, ho, _⟩, ⟨o', ho', _⟩⟩ b hb e
    rcases List.mem_cons.mp hb with rfl | hb
    · rw [ho] at e; cases e
    · rw [List.mem_singleton.mp hb, ho'] at e; cases e
end
end Mine
end
-- part M29
section
set_option maxRecDepth 100000
set_option linter.unusedVariables false
set_option maxHeartbeats 4000000
namespace Mine
open PyProof PySem PySem.Calls PyProof.Rows PySem.W PySem.W.X

theorem fdm_unique {a b q r : Int} (hb : 0 < b) (h : b * q + r = a) (h0 : 0 ≤ r) (h1 : r < b) : a.fdiv b = q ∧ a.fmod b = r := by
  rw [Int.fdiv_eq_ediv_of_nonneg _ (Int.le_of_lt hb), Int.fmod_eq_emod_of_nonneg _ (Int.le_of_lt hb), ← h, Int.add_comm]
  rw [Int.add_mul_ediv_left _ _ (by lia), Int.ediv_eq_zero_of_lt h0 h1, Int.zero_add, Int.add_mul_emod_self_left, Int.emod_eq_of_lt h0 h1]
  exact ⟨rfl, rfl⟩
theorem fdm_not {a b : Int} (hb : 0 < b) : a.fdiv b = -((-a - 1).fdiv b) - 1 ∧ a.fmod b = b + (-((-a - 1).fmod b) - 1) := by
  have h0 := Int.fmod_nonneg_of_pos (-a - 1) hb
  have h1 := Int.fmod_lt_of_pos (-a - 1) hb
  have h2 := Int.mul_fdiv_add_fmod (-a - 1) b
  refine fdm_unique hb ?_ (by lia) (by lia)
  generalize (-a - 1).fdiv b = q at *
  generalize (-a - 1).fmod b = r at *
  have : b * (-q - 1) = -(b * q) - b := by rw [Int.mul_sub, Int.mul_neg, Int.mul_one]
  lia

section
variable {w : World} {A : Around} {E : Value → Shared → Prop} {h h' : Heap} {gn : Array GenState} {d : Drawn} {t : Nat} {os : OsState} {g : Heap} {L a : Addr} {i : Nat} {vals : List (Option Value)} {own : List (Addr × Obj)}
  {fa : Nat → Addr} {mg mb : Str → Option Value} {n : Str} {cd : Value} {pos : Pos} {sco : Scope} {env : Env} {ns : List Str}
theorem ok11 : DefOk 11 := by decide +kernel

/-- the facts that a call of int_divmod asks, and what it gives -/
structure DM (fa : Nat → Addr) (mg mb : Str → Option Value) (g : Heap) (c8 P8 c9 P9 : Addr) : Prop where
  base : Base fa mg mb g
  i8 : InD fa mg g 8 c8 P8
  i9 : InD fa mg g 9 c9 P9
structure TT (P8 P9 : Addr) (τ8 τ9 : List (Addr × Obj)) : Prop where
  t8 : TabO P8 idf8.2.2.2.2 q8 τ8
  t9 : TabO P9 idf9.2.2.2.2 q9 τ9
theorem DM.keeps {g g' : Heap} {c8 P8 c9 P9 : Addr} (x : DM fa mg mb g c8 P8 c9 P9) (hk : Keep g g') : DM fa mg mb g' c8 P8 c9 P9 := ⟨x.base.keeps hk, x.i8.keeps hk, x.i9.keeps hk⟩
variable {c8 P8 c9 P9 : Addr} {τ8 τ9 rest : List (Addr × Obj)} {x b : Int} {tx tb : Tok} {R : Result → Shared → Prop}

theorem idm_pos (M : DM fa mg mb g c8 P8 c9 P9) (T0 : TT P8 P9 τ8 τ9) (O : Ow g (τ8 ++ (τ9 ++ rest)) h)
    (hA : A.handled = none) (hroom : A.depth + 40 < recursionLimit) (hxb : Builtin.Int.intBits x ≤ 9000) (hx0 : 0 ≤ x) (hb0 : 0 < b) (hbb : Builtin.Int.intBits b ≤ 1000)
    (k : ∀ h' t' T u v τ8' τ9', Ow g ((T, tup (.int (x.fdiv b) u) (.int (x.fmod b) v)) :: (τ8' ++ (τ9' ++ rest))) h' → TT P8 P9 τ8' τ9' → R (.ok (.ret (.ref T))) ⟨h', gn, d, t', os⟩) :
    codeAny (model pg w) A (.call (.ref (fa 11)) ⟨[.int x tx, .int b tb], []⟩) R ⟨h, gn, d, t, os⟩ := by
  refine enter (M.base.keeps O.keep) (by decide) ok11 (by lia) (fun _ _ _ => by kernel_rfl) fun L cd h₁ t₁ ht₁ hL₁ S0 => ?_
  have S : St g L (lc 11) [some (.int x tx), some (.int b tb), none, none] (τ8 ++ (τ9 ++ rest)) h₁ := O.st S0
  clear S0
  refine wpAny_execs_cons (wpAny_If (wpAny_isTrue_Compare1 (r_loc S v11_b rfl (c_int fun t₂ => o_eq (wpAny_truthy_bool ?_)))))
  rw [if_neg (by simp; lia)]
  refine wpAny_execs_cons (wpAny_If (wpAny_isTrue_Compare1 (r_loc S v11_b rfl (c_int fun t₃ => o_lt (wpAny_truthy_bool ?_)))))
  rw [if_neg (by simp; lia)]
  refine wpAny_execs_cons (wpAny_If (wpAny_isTrue_Compare1 (r_loc S v11_a rfl (c_int fun t₄ => o_lt (wpAny_truthy_bool ?_)))))
  rw [if_neg (by simp; lia)]
  refine wpAny_execs_cons (wpAny_Return_some (Call_ (r_fn S M.base g11__divmod_pos (by decide) ?_)))
  refine call_fn M.base (by decide) (acons (r_loc S v11_a rfl (acons (r_loc S v11_b rfl (anil ⟨S.keep, wpAny_call ?_⟩)))))
  obtain ⟨oL, OO, back⟩ := S.ow
  obtain ⟨x, rfl⟩ := Int.eq_ofNat_of_zero_le hx0
  obtain ⟨b, rfl⟩ := Int.eq_ofNat_of_zero_le (Int.le_of_lt hb0)
  refine pos_spec (rest := rest ++ [(L, oL)]) M.base M.i8 M.i9 T0.t8 T0.t9 (by simpa [List.append_assoc] using OO) hA (by show A.depth + 1 + 30 < _; lia) hxb (by lia) hbb fun h₂ t₅ T u v τ8' τ9' O₂ T8 T9 => ?_
  have S₂ := back ((T, tup (.int ((x / b : Nat) : Int) u) (.int ((x % b : Nat) : Int) v)) :: (τ8' ++ (τ9' ++ rest))) h₂ (by simpa [List.append_assoc] using O₂)
  rw [Int.fdiv_eq_ediv_of_nonneg _ (Int.natCast_nonneg _), Int.fmod_eq_emod_of_nonneg _ (Int.natCast_nonneg _), ← Int.natCast_ediv, ← Int.natCast_emod] at k
  exact k _ _ T u v τ8' τ9' S₂.toOw ⟨T8, T9⟩

theorem bits_not {x : Int} {m : Nat} (h : Builtin.Int.intBits x ≤ m) : Builtin.Int.intBits (-x - 1) ≤ m + 1 := by
  have h1 := PySem.intBits_le_iff.mp h
  refine PySem.intBits_le_iff.mpr ?_
  rw [Nat.pow_succ]; lia
theorem idm_any (M : DM fa mg mb g c8 P8 c9 P9) (T0 : TT P8 P9 τ8 τ9) (O : Ow g (τ8 ++ (τ9 ++ rest)) h)
    (hA : A.handled = none) (hroom : A.depth + 45 < recursionLimit) (hxb : Builtin.Int.intBits x ≤ 8000) (hb0 : 0 < b) (hbb : Builtin.Int.intBits b ≤ 1000)
    (k : ∀ h' t' T u v τ8' τ9', Ow g ((T, tup (.int (x.fdiv b) u) (.int (x.fmod b) v)) :: (τ8' ++ (τ9' ++ rest))) h' → TT P8 P9 τ8' τ9' → R (.ok (.ret (.ref T))) ⟨h', gn, d, t', os⟩) :
    codeAny (model pg w) A (.call (.ref (fa 11)) ⟨[.int x tx, .int b tb], []⟩) R ⟨h, gn, d, t, os⟩ := by
  by_cases hx0 : 0 ≤ x
  · exact idm_pos M T0 O hA (by lia) (by lia) hx0 hb0 hbb k
  refine enter (M.base.keeps O.keep) (by decide) ok11 (by lia) (fun _ _ _ => by kernel_rfl) fun L cd h₁ t₁ ht₁ hL₁ S0 => ?_
  have S : St g L (lc 11) [some (.int x tx), some (.int b tb), none, none] (τ8 ++ (τ9 ++ rest)) h₁ := O.st S0
  clear S0
  refine wpAny_execs_cons (wpAny_If (wpAny_isTrue_Compare1 (r_loc S v11_b rfl (c_int fun t₂ => o_eq (wpAny_truthy_bool ?_)))))
  rw [if_neg (by simp; lia)]
  refine wpAny_execs_cons (wpAny_If (wpAny_isTrue_Compare1 (r_loc S v11_b rfl (c_int fun t₃ => o_lt (wpAny_truthy_bool ?_)))))
  rw [if_neg (by simp; lia)]
  refine wpAny_execs_cons (wpAny_If (wpAny_isTrue_Compare1 (r_loc S v11_a rfl (c_int fun t₄ => o_lt (wpAny_truthy_bool ?_)))))
  rw [if_pos (by simp; lia)]
  refine wpAny_execs_cons (Assign_Tuple (Call_ (r_fn S M.base g11_int_divmod (by decide) ?_)))
  refine call_fn M.base (by decide) (acons (wpAny_UnaryOp (r_loc S v11_a rfl (o_inv fun u₁ t₅ => acons (r_loc S v11_b rfl (anil ⟨S.keep, wpAny_call ?_⟩))))))
  obtain ⟨oL, OO, back⟩ := S.ow
  have hnb : Builtin.bitNot x = -x - 1 := rfl
  rw [hnb]
  refine idm_pos (rest := rest ++ [(L, oL)]) M T0 (by simpa [List.append_assoc] using OO) hA (by show A.depth + 1 + 40 < _; lia) (Nat.le_trans (bits_not hxb) (by lia)) (by lia) hb0 hbb fun h₂ t₆ T u v τ8' τ9' O₂ T₂ => ?_
  have S₂ := back ((T, tup (.int ((-x - 1).fdiv b) u) (.int ((-x - 1).fmod b) v)) :: (τ8' ++ (τ9' ++ rest))) h₂ (by simpa [List.append_assoc] using O₂)
  refine asg2 hA S₂ ⟨_, (S₂.isOwn _ (.head _)).1, rfl, _, rfl⟩ v11_q v11_r fun h₃ t₇ S₃ _ => ?_
  refine wpAny_execs_cons (wpAny_Return_some (Tuple_ (acons ?_)))
  refine wpAny_UnaryOp (r_loc S₃ v11_q rfl (o_inv fun u₂ t₈ => acons (wpAny_BinOp (r_loc S₃ v11_b rfl (wpAny_UnaryOp (r_loc S₃ v11_r rfl (o_inv fun u₃ t₉ => o_add fun u₄ t₁₀ => anil (new_tuple rfl ?_))))))))
  have S₄ := S₃.push (tup (.int (Builtin.bitNot ((-x - 1).fdiv b)) u₂) (.int (b + Builtin.bitNot ((-x - 1).fmod b)) u₄))
  obtain ⟨e1, e2⟩ := fdm_not (a := x) hb0
  rw [e1, e2] at k
  exact k _ _ _ _ _ τ8' τ9' (S₄.toOw.drop (.cons_cons _ (.cons _ (.refl _)))) T₂

theorem idm_spec (M : DM fa mg mb g c8 P8 c9 P9) (T0 : TT P8 P9 τ8 τ9) (O : Ow g (τ8 ++ (τ9 ++ rest)) h)
    (hA : A.handled = none) (hroom : A.depth + 50 < recursionLimit) (hxb : Builtin.Int.intBits x ≤ 8000) (hb0 : b ≠ 0) (hbb : Builtin.Int.intBits b ≤ 1000)
    (k : ∀ h' t' T u v τ8' τ9', Ow g ((T, tup (.int (x.fdiv b) u) (.int (x.fmod b) v)) :: (τ8' ++ (τ9' ++ rest))) h' → TT P8 P9 τ8' τ9' → R (.ok (.ret (.ref T))) ⟨h', gn, d, t', os⟩) :
    codeAny (model pg w) A (.call (.ref (fa 11)) ⟨[.int x tx, .int b tb], []⟩) R ⟨h, gn, d, t, os⟩ := by
  by_cases hbp : 0 < b
  · exact idm_any M T0 O hA (by lia) hxb hbp hbb k
  refine enter (M.base.keeps O.keep) (by decide) ok11 (by lia) (fun _ _ _ => by kernel_rfl) fun L cd h₁ t₁ ht₁ hL₁ S0 => ?_
  have S : St g L (lc 11) [some (.int x tx), some (.int b tb), none, none] (τ8 ++ (τ9 ++ rest)) h₁ := O.st S0
  clear S0
  refine wpAny_execs_cons (wpAny_If (wpAny_isTrue_Compare1 (r_loc S v11_b rfl (c_int fun t₂ => o_eq (wpAny_truthy_bool ?_)))))
  rw [if_neg (by simp; lia)]
  refine wpAny_execs_cons (wpAny_If (wpAny_isTrue_Compare1 (r_loc S v11_b rfl (c_int fun t₃ => o_lt (wpAny_truthy_bool ?_)))))
  rw [if_pos (by simp; lia)]
  refine wpAny_execs_cons (Assign_Tuple (Call_ (r_fn S M.base g11_int_divmod (by decide) ?_)))
  refine call_fn M.base (by decide) (acons (wpAny_UnaryOp (r_loc S v11_a rfl (o_neg fun u₁ t₅ => acons (wpAny_UnaryOp (r_loc S v11_b rfl (o_neg fun u₂ t₆ => anil ⟨S.keep, wpAny_call ?_⟩)))))))
  obtain ⟨oL, OO, back⟩ := S.ow
  have hx1 : Builtin.Int.intBits (-x) ≤ 8000 := PySem.intBits_neg_le hxb
  have hb1 : Builtin.Int.intBits (-b) ≤ 1000 := PySem.intBits_neg_le hbb
  refine idm_any (rest := rest ++ [(L, oL)]) M T0 (by simpa [List.append_assoc] using OO) hA (by show A.depth + 1 + 45 < _; lia) hx1 (by lia) hb1 fun h₂ t₇ T u v τ8' τ9' O₂ T₂ => ?_
  have S₂ := back ((T, tup (.int ((-x).fdiv (-b)) u) (.int ((-x).fmod (-b)) v)) :: (τ8' ++ (τ9' ++ rest))) h₂ (by simpa [List.append_assoc] using O₂)
  refine asg2 hA S₂ ⟨_, (S₂.isOwn _ (.head _)).1, rfl, _, rfl⟩ v11_q v11_r fun h₃ t₈ S₃ _ => ?_
  refine wpAny_execs_cons (wpAny_Return_some (Tuple_ (acons (r_loc S₃ v11_q rfl (acons ?_)))))
  refine wpAny_UnaryOp (r_loc S₃ v11_r rfl (o_neg fun u₃ t₉ => anil (new_tuple rfl ?_)))
  have S₄ := S₃.push (tup (.int ((-x).fdiv (-b)) u) (.int (-((-x).fmod (-b))) u₃))
  have e1 : x.fdiv b = (-x).fdiv (-b) := (Int.neg_fdiv_neg x b).symm
  have e2 : x.fmod b = -((-x).fmod (-b)) := by
    have h1 := Int.mul_fdiv_add_fmod x b
    have h2 := Int.mul_fdiv_add_fmod (-x) (-b)
    rw [← e1, Int.neg_mul] at h2
    lia
  rw [e1, e2] at k
  exact k _ _ _ _ _ τ8' τ9' (S₄.toOw.drop (.cons_cons _ (.cons _ (.refl _)))) T₂
end
end Mine
end
-- part M30
section
set_option maxRecDepth 100000
set_option linter.unusedVariables false
set_option maxHeartbeats 4000000
namespace Mine
open PyProof PySem PySem.Calls PyProof.Rows PySem.W PySem.W.X

section
variable {w : World} {A : Around} {E : Value → Shared → Prop} {h h' : Heap} {gn : Array GenState} {d : Drawn} {t : Nat} {os : OsState} {g : Heap} {L a : Addr} {i : Nat} {vals : List (Option Value)} {own : List (Addr × Obj)}
  {fa : Nat → Addr} {mg mb : Str → Option Value} {n : Str} {cd : Value} {pos : Pos} {sco : Scope} {env : Env} {ns : List Str}
theorem Keeps.of {s : Shared} {h' : Heap} {t' : Nat} (hk : Keep s.heap h') : Keeps s ⟨h', s.gens, s.drawn, t', s.os⟩ := ⟨h', t', rfl, hk⟩
/-- a place that holds nothing is none of the state's places -/
theorem St.off {ns : List Str} {b : Addr} (S : St g L ns vals own h) (hb : h.get? b = none) : b ≠ L ∧ g.get? b = none ∧ ∀ p ∈ own, p.1 ≠ b := by
  have ne : ∀ {c o}, h.get? c = some o → c ≠ b := fun hc e => by subst e; simp_all
  refine ⟨fun e => ?_, ?_, fun p hp => ne (S.isOwn p hp).1⟩
  · obtain ⟨o, _, _, ho, _⟩ := S.isNs
    exact ne ho e.symm
  · cases hq : g.get? b with
    | none => rfl
    | some o => exact absurd rfl (ne (S.keep b o hq))
/-- the list that a comprehension made is bound to its name while the comprehension's own frame C still stands -/
theorem comp_stored {y : Str} {py : Pos} {ky D C I tk nn : Nat} {ys : Array Value} {m' : Str → Option Value} {h₂ h₃ : Heap} {Q : Shared → Prop} (S : St g L (lcS sco) vals own h) (qy : LocS sco y ky) (V : EnvIs env sco L)
    (hk : Keep h h₂) (hI : h.get? I = none) (hD : h₂.get? D = none) (hC : h₂.get? C = none) (hDC : D ≠ C) (hn : h₃.Ns C m') (hDo : h₃.get? D = some (lst ys nn)) (hold : ∀ b o, b ∉ [I] → h₂.get? b = some o → h₃.get? b = some o)
    (fin : ∀ h' t', St g L (lcS sco) (vals.set ky (some (.ref D))) ((D, lst ys nn) :: own) h' → Q ⟨h', gn, d, t', os⟩) :
    wpAny (model pg w) A (assign (.Name y py) env (.ref D)) (fun _ s => ∃ m, s.heap.Ns C m ∧ ∀ h', Heap.SameBut C s.heap h' → Q { s with heap := h' }) E ⟨h₃, gn, d, tk, os⟩ := by
  have S₂ := S.keeps hk
  obtain ⟨iL, iG, iO⟩ := S.off hI
  obtain ⟨dL, dG, dO⟩ := S₂.off hD
  obtain ⟨cL, cG, cO⟩ := S₂.off hC
  have S₃ : St g L (lcS sco) vals own h₃ := S₂.moved hold (by simpa using iL.symm) (by simpa using iG) (fun p hp => by simpa using iO p hp)
  obtain ⟨oC, hoC⟩ : ∃ o, h₃.get? C = some o := ⟨_, hn.choose_spec.choose_spec.choose_spec.1⟩
  have S₄ := (S₃.add hDo dL dG dO).add hoC cL cG fun p hp => by
    rcases List.mem_cons.mp hp with rfl | hp
    · exact hDC
    · exact cO p hp
  refine wpAny_assign_Name (r_st S₄ qy (fun h₅ t₅ S₅ _ => ⟨m', hn.at' fun o e => ?_, fun h₆ same => fin h₆ t₅ ?_⟩) V)
  · rw [hoC] at e
    exact e ▸ (S₅.isOwn _ (.head _)).1
  · refine (S₅.drop (List.sublist_cons_self ..)).moved (wr := [C]) (fun b o hb e => (same.2 b (by simpa using hb)).trans e) (by simpa using cL.symm) (by simpa using cG) fun p hp => ?_
    rcases List.mem_cons.mp hp with rfl | hp
    · simpa using hDC
    · simpa using cO p hp
theorem comp1 {elt iter : PySem.Expr} {scope : Scope} {x y : Str} {px py spos : Pos} {ky : Nat} {cl : List (Str × Addr)} {Q : Flow → Shared → Prop} (S : St g L (lcS sco) vals own h)
    (hsw : swapsWith (.ListComp elt [⟨.Name x px, iter, [], 0⟩] scope pos) (some (.Name y py)) spos.line env = pure true) (hclos : closureFor scope env = pure cl) (hcell : ∀ z ∈ scope.names, z.2 ≠ .cell) (hkind : scope.kind = .function)
    (hnames : ∀ z ∈ scope.names, z.2 = .local → scope.names.lookup z.1 = some .local) (hx : scope.names.lookup x = some .local) (qy : LocS sco y ky)
    (hit : wpAny (model pg w) A (eval iter env) (fun xv s₁ => wpAny (model pg w) A (pyIter xv) (fun it s₂ => ∃ (F : Value → Value → Prop) (h₂ : Heap) (t₂ : Nat) (I : Addr) (fp : List Addr) (m : Nat) (P : Nat → Value → Prop) (Sx : Nat → Heap → Prop), s₂ = ⟨h₂, gn, d, t₂, os⟩ ∧ it = .ref I ∧ Walks pg w A I fp [I] m P Sx ∧ m ≤ sizeLine ∧ Sx 0 h₂ ∧ (∀ b ∈ fp, b < h₂.objs.size) ∧ Keep h h₂ ∧ h.get? I = none ∧
      (∀ C i v s₃ m₃ E', P i v → s₃.heap.Ns C m₃ → m₃ x = some v → Keep h s₃.heap → (∀ b o, b ≠ I → h₂.get? b = some o → s₃.heap.get? b = some o) → wpAny (model pg w) A (eval elt (compEnvC scope cl C env)) (fun y s₄ => F v y ∧ Keeps s₃ s₄) E' s₃) ∧
      (∀ D ys nn (vs : List Value) h' t', vs.length = m → (∀ j v, vs[j]? = some v → P j v) → Paired F vs ys.toList → h.get? D = none → St g L (lcS sco) (vals.set ky (some (.ref D))) ((D, lst ys nn) :: own) h' → Q .next ⟨h', gn, d, t', os⟩)) E s₁) E ⟨h, gn, d, t, os⟩)
    (V : EnvIs env sco L := by exact ⟨rfl, rfl, rfl, rfl⟩) (hs : ∀ x, foldedSetIterable iter env x = pure x := by intro _; rfl) :
    wpAny (model pg w) A (exec (.Assign [.Name y py] (.ListComp elt [⟨.Name x px, iter, [], 0⟩] scope pos) spos) env) Q E ⟨h, gn, d, t, os⟩ := by
  rw [exec_Assign_Name_used _ _ _ _ hsw]
  apply wpAny_bind
  apply wpAny_standAt
  apply wpAny_bind
  show wpAny _ A (comprehension _ scope env _ (newList []) false (eval iter env) (some (assign (.Name y py) env)) >>= fun _ => pure PUnit.unit) _ _ _
  apply wpAny_bind
  refine wpAny_mono (Q := fun _ s' => Q .next s') (E := E) ?_ (fun _ _ q => wpAny_pure (wpAny_pure q)) (fun _ _ q => q)
  refine wpAny_comprehension_free (cl := cl) rfl hs hclos hkind hnames ?_
  refine wpAny_mono hit (fun _ _ p => wpAny_mono p (fun _ _ q => ?_) fun _ _ q => q) fun _ _ q => q
  obtain ⟨F, h₂, t₂, I, fp, m, P, Sx, rfl, rfl, W, hm, hst, hfp, hk, hI, helt, hdone⟩ := q
  have hkI : ∀ {h'' : Heap}, (∀ b o, b ∉ [I] → h₂.get? b = some o → h''.get? b = some o) → Keep h h'' := fun hq b o e => hq b o (by simpa using fun x : b = I => by rw [x, hI] at e; cases e) (hk b o e)
  refine comp_block_walkC W hm (fun _ => true) F hcell hkind hx hst hfp ⟨fun C i v s₃ m₃ E' _ _ _ _ _ _ => wpAny_pure ⟨rfl, s₃.heap, s₃.toks, rfl, fun _ _ e => e⟩,
    fun C i v s₃ m₃ E' _ hP _ hn hv hk₃ _ => helt C i v s₃ m₃ E' hP hn hv (hkI hk₃) fun b o hb e => hk₃ b o (by simpa using hb) e⟩ ?_
  rintro D C h₃ tk m' ys vs hD hC hDC hn _ ⟨nn, hDo⟩ hlen hP hF hold
  refine comp_stored (Q := Q .next) S qy V hk hI hD hC hDC hn hDo hold fun h' t' S' => hdone D ys nn vs h' t' hlen hP ?_ ?_ S'
  · rwa [List.filter_eq_self.mpr fun _ _ => rfl] at hF
  · cases hq : h.get? D with
    | none => rfl
    | some o => rw [hk _ _ hq] at hD; cases hD

theorem o_sum {l : Addr} {items : Array Value} {Q : Value → Shared → Prop} (hA : A.handled = none) (hl : h.IsList l items) (ha : AllInts items) (c : ∀ z tk h' t', Keep h h' → Q (.int z tk) ⟨h', gn, d, t', os⟩) :
    wpAny (model pg w) A (call (.builtin "sum") [.ref l]) Q E ⟨h, gn, d, t, os⟩ := by
  obtain ⟨xs, rfl⟩ := ha.items
  exact sum_intListG (s := ⟨h, gn, d, t, os⟩) hA hl fun h' tk t' hk => c _ _ h' tk hk
theorem pick_ints {items : Array Value} {lo hi st : Option Int} (ha : AllInts items) : AllInts (slicePick items lo hi st) := by
  intro v hv
  unfold slicePick at hv
  obtain ⟨k, _, hk⟩ := List.mem_filterMap.mp (by simpa using hv)
  exact ha v (Array.mem_of_getElem? hk)
theorem paired_ints {vs ys : List Value} (hp : Paired (fun _ y => ∃ i t, y = Value.int i t) vs ys) : ∃ ns, IntsAre ys ns ∧ ns.length = vs.length := by
  induction hp with
  | nil => exact ⟨[], .nil, rfl⟩
  | cons hf _ ih =>
    obtain ⟨i, t, rfl⟩ := hf
    obtain ⟨ns, h1, h2⟩ := ih
    exact ⟨i :: ns, .cons i t h1, by simp [h2]⟩
end
end Mine
end
-- part M31
section
set_option maxRecDepth 100000
set_option linter.unusedVariables false
set_option maxHeartbeats 4000000
namespace Mine
open PyProof PySem PySem.Calls PyProof.Rows PySem.W PySem.W.X

noncomputable def Nc (c : Nat) : List Str := ([("a" : Str), "b", "c", "d"] : List Str).take c
noncomputable def opU : Nat → Str
  | 0 => "("
  | 1 => "\\)("
  | 2 => "\")\"("
  | _ => "\\\\("
noncomputable def tl (k : Nat) : List Stmt := (bd 21).drop k

section
variable {w : World} {A : Around} {E : Value → Shared → Prop} {h h' : Heap} {gn : Array GenState} {d : Drawn} {t : Nat} {os : OsState} {g : Heap} {L a : Addr} {i : Nat} {vals : List (Option Value)} {own : List (Addr × Obj)}
  {fa : Nat → Addr} {mg mb : Str → Option Value} {n : Str} {cd : Value} {pos : Pos} {sco : Scope} {env : Env} {ns : List Str} {c8 P8 c9 P9 : Addr} {τ8 τ9 rest : List (Addr × Obj)}
theorem St.freeze {ex own : List (Addr × Obj)} (S : St g L ns vals (ex ++ own) h) : ∃ g', Keep g g' ∧ (∀ p ∈ ex, g'.get? p.1 = some p.2) ∧ St g' L ns vals own h := by
  have S' : St g L ns vals own h := S.drop (List.sublist_append_right _ _)
  refine ⟨_, S'.below, fun p hp => ?_, S'.rebase⟩
  have hnd := S.nd
  rw [List.map_append, List.nodup_append] at hnd
  rw [hide_get, if_neg, (S.isOwn p (List.mem_append_left _ hp)).1]
  intro hm
  rcases List.mem_cons.mp hm with e | hm
  · exact (S.isOwn p (List.mem_append_left _ hp)).2.1 e
  · exact hnd.2.2 p.1 (List.mem_map.mpr ⟨p, hp, rfl⟩) p.1 hm rfl
/-- a heap wholly known beside the frame's own -/
theorem St.freezeAt {own : List (Addr × Obj)} (S : St g L ns vals own h) : ∃ g', Keep g g' ∧ (∀ b o, b ≠ L → (∀ p ∈ own, p.1 ≠ b) → h.get? b = some o → g'.get? b = some o) ∧ St g' L ns vals own h := by
  refine ⟨_, S.below, fun b o hb hp e => ?_, S.rebase⟩
  rw [hide_get, if_neg, e]
  intro hm
  rcases List.mem_cons.mp hm with e | hm
  · exact hb e
  · obtain ⟨p, hp', e⟩ := List.mem_map.mp hm
    exact hp p hp' e
theorem sub_lit {value slice : PySem.Expr} {s : Shared} {Q : Value → Shared → Prop}
    (h : wpAny (model pg w) A (eval value env) (fun o s₁ => wpAny (model pg w) A (eval slice env) (fun i s₂ => ItemOn (model pg w) A E o i Q s₂) E s₁) E s)
    (hs : ∀ o i, subscripted slice false o i = operate [o, i] (getItem o i) := by intro _ _; rfl) :
    wpAny (model pg w) A (eval (.Subscript value slice pos) env) Q E s := by
  refine Subscript_ (wpAny_mono h (fun o _ p => wpAny_mono p (fun i _ q => ?_) fun _ _ e => e) fun _ _ e => e)
  obtain ⟨_, _, look, typ, item⟩ := q
  exact tail_any typ look item (hs o i)
theorem c_strK {k : Nat} {x : Str} {env : Env} {Q : Value → Shared → Prop} (c : Q (.str x t) ⟨h, gn, d, t + 1, os⟩) : wpAny (model pg w) A (eval (.Constant (.str x) k pos) env) Q E ⟨h, gn, d, t, os⟩ := Constant_str c

theorem rw_bt {x : Str} {v : Value} {s : Shared} {Q : Value → Shared → Prop} (hk : Keep g s.heap) (B : Base fa mg mb g) (q : env.scope.names.lookup x = some .globalImplicit) (b : BtF x v) (c : Q v s)
    (hg : env.globals = mainGlobals := by rfl) (hb : env.builtins = builtinsNs := by rfl) (hs : env.scope.kind = .function := by rfl) (hd : (x == ("__debug__" : Str)) = false := by rfl) : wpAny (model pg w) A (eval (.Name x pos) env) Q E s :=
  Name_function_global (env := env) hs q (loadGlobal_builtin (env := env) (by rw [hg]; exact B.gns.keeps hk) (B.none_ x b.1) (by rw [hb]; exact B.bns.keeps hk) ((B.bt x b.1).trans b.2) c) hd
theorem rw_fn {x : Str} {j : Nat} {s : Shared} {Q : Value → Shared → Prop} (hk : Keep g s.heap) (B : Base fa mg mb g) (q : env.scope.names.lookup x = some .globalImplicit) (hj : nm j = x) (hi : j ∈ fnIds) (c : Q (.ref (fa j)) s)
    (hg : env.globals = mainGlobals := by rfl) (hs : env.scope.kind = .function := by rfl) (hd : (x == ("__debug__" : Str)) = false := by rfl) : wpAny (model pg w) A (eval (.Name x pos) env) Q E s := by
  subst hj
  exact Name_function_global (env := env) hs q (loadGlobal_global (env := env) (by rw [hg]; exact B.gns.keeps hk) (B.fn j hi).at_ c) hd
theorem rw_loc {x : Str} {v : Value} {s : Shared} {m : Str → Option Value} {Q : Value → Shared → Prop} (hn : s.heap.Ns env.locals m) (hv : m x = some v) (c : Q v s)
    (hl : env.kindOf x = some .local := by rfl) (hs : env.scope.kind = .function := by rfl) (hd : (x == ("__debug__" : Str)) = false := by rfl) : wpAny (model pg w) A (eval (.Name x pos) env) Q E s :=
  wpAny_Name (wpAny_loadName_local hs hl hn hv c) hd
theorem rw_cell {x : Str} {v : Value} {c : Addr} {s : Shared} {Q : Value → Shared → Prop} (hc : env.cells.lookup x = some c) (hv : s.heap.IsCell c (some v)) (kk : Q v s)
    (hl : env.kindOf x = some .cell := by rfl) (hs : env.scope.kind = .function := by rfl) (hd : (x == ("__debug__" : Str)) = false := by rfl) : wpAny (model pg w) A (eval (.Name x pos) env) Q E s :=
  wpAny_Name (wpAny_loadName_cell hs hl hc hv kk) hd

theorem law_sums {Q : Flow → Shared → Prop} {ax : Addr} {items : Array Value} (M : DM fa mg mb g c8 P8 c9 P9) (hA : A.handled = none)
    (S : St g L (lc 21) (List.replicate 25 none) own h) (hcell : g.IsCell (L + 1) (some (.ref ax))) (hl : g.IsList ax items) (hi : AllInts items) (hsz : items.size ≤ 1000)
    (k : ∀ D ys nn ns g' h' t', Keep g g' → IntsAre ys.toList ns → ns.length = 6 → g'.get? D = some (lst ys nn) → St g' L (lc 21) ((List.replicate 25 none).set 0 (some (.ref D))) own h' →
      wpAny (model pg w) A (execs (tl 1) (envOfC (nm 21) (sc 21) L a cd)) Q E ⟨h', gn, d, t', os⟩) :
    wpAny (model pg w) A (execs (tl 0) (envOfC (nm 21) (sc 21) L a cd)) Q E ⟨h, gn, d, t, os⟩ := by
  refine wpAny_execs_cons (comp1 (cl := [("script", L + 1)]) (sco := sc 21) S (by rfl) (by rfl) (by decide) (by rfl) (by decide) (by rfl) v21_sums ?_)
  refine Call_ (r_bt S M.base g21_range b_range ?_)
  refine cw_type (acons (c_int fun t₂ => anil ?_))
  refine o_range1 fun h₂ r u v t₃ hk₂ hz₂ hr₂ hR => ?_
  refine wpAny_pyIter_range (s := ⟨h₂, gn, d, t₃, os⟩) hR (small_one (by lia) (by lia) (by lia) (by lia)) ?_
  have hkp : Keep h₂ (h₂.push { cls := .type "range_iterator", data := .fields #[rawInt 0, rawInt (Builtin.Range.rangeSize 0 6 1), rawInt 1] }) := fun b o e => Heap.get?_push_of_some _ e
  refine ⟨fun _ y => ∃ i t, y = .int i t, _, _, h₂.objs.size, [h₂.objs.size], 6, _, _, rfl, rfl, Walks.range (prog := pg) (w := w) hA h₂.objs.size 0 1 6, le_line (by lia), ?_, ?_, fun b o e => hkp b o (hk₂ b o e), none_above (by rw [hz₂]; exact Nat.le_succ _), ?_, ?_⟩
  · show IsRangeIter _ _ _ _ _
    exact Heap.get?_push_size _ rfl
  · intro b hb
    rw [List.mem_singleton.mp hb]
    show _ < (h₂.push _).objs.size
    rw [Heap.size_push]; lia
  · rintro C i v s₃ m₃ E' ⟨tk, rfl⟩ hn hv hk₃ _
    have hkg : Keep g s₃.heap := fun b o e => hk₃ b o (S.keep b o e)
    refine Call_ (rw_bt hkg M.base (by rfl) b_sum (cw_bt (acons ?_)))
    refine wpAny_Subscript_Slice_step list_getitem_lookup (rw_cell (c := L + 1) (by rfl) (hcell.keeps hkg) (wpAny_Slice ?_))
    refine rw_loc hn hv (wpAny_pure ?_)
    obtain ⟨h₃, gn₃, d₃, t₄, os₃⟩ := s₃
    rw [evalPart_some]
    refine c_int fun t₅ => ?_
    have hl3 : h₃.IsList ax items := hl.at fun o e => hkg _ _ e
    refine ⟨(hl3.push _).typeIs, ?_⟩
    refine wpAny_getItem_list_slice (hl3.push _) (Heap.IsSliceOf.new ..) (.int _ _) .none (.int _ _) (by simp) (anil ?_) (le_line (by lia))
    refine o_sum hA (isList_of (Heap.get?_push_size _ rfl)) (pick_ints hi) fun z tk' h₄ t₆ hk₄ => ?_
    exact ⟨⟨z, tk', rfl⟩, h₄, t₆, rfl, fun b o e => hk₄ b o (Heap.get?_push_of_some _ (Heap.get?_push_of_some _ e))⟩
  · intro D ys nn vs h' t' hlen _ hF hD S'
    obtain ⟨ns, h1, h2⟩ := paired_ints hF
    obtain ⟨g', hg', hD', S''⟩ := St.freeze (ex := [(D, lst ys nn)]) S'
    exact k D ys nn ns g' h' t' hg' h1 (by lia) (hD' _ (.head _)) S''
end
end Mine
end
-- part M32
section
set_option maxRecDepth 100000
set_option linter.unusedVariables false
set_option maxHeartbeats 4000000
namespace Mine
open PyProof PySem PySem.Calls PyProof.Rows PySem.W PySem.W.X

section
variable {w : World} {A : Around} {E : Value → Shared → Prop} {h h' : Heap} {gn : Array GenState} {d : Drawn} {t : Nat} {os : OsState} {g : Heap} {L a : Addr} {i : Nat} {vals : List (Option Value)} {own : List (Addr × Obj)}
  {fa : Nat → Addr} {mg mb : Str → Option Value} {n : Str} {cd : Value} {pos : Pos} {sco : Scope} {env : Env} {ns : List Str} {c8 P8 c9 P9 : Addr} {τ8 τ9 rest : List (Addr × Obj)}
theorem r_stK {x : Str} {k : Nat} {v : Value} {Q : Unit → Shared → Prop} (S : St g L (lcS sco) vals own h) (q : LocS sco x k)
    (c : ∀ h', St g L (lcS sco) (vals.set k (some v)) own h' → Q () ⟨h', gn, d, t + 1, os⟩) (V : EnvIs env sco L := by exact ⟨rfl, rfl, rfl, rfl⟩) :
    wpAny (model pg w) A (storeName env x v) Q E ⟨h, gn, d, t, os⟩ :=
  wpAny_storeName_local (env := env) (by show env.scope.names.lookup x = _; rw [V.scope]; exact q.1) (by rw [V.locals]; exact S.isNs) (fun h' hn hs => by
      rw [V.locals] at hn hs
      exact c h' (by have := S.setv (by rw [q.2.1]; exact q.2.2.1) hn hs; rw [q.2.1] at this; exact this))
    (by rw [V.scope, q.2.2.2.2]; rfl)
theorem if_two {b : Bool} {e1 e2 : PySem.Expr} {s : Shared} {Q P : Value → Shared → Prop} (k : ∀ v s', P v s' → Q v s') (h1 : b = true → wpAny (model pg w) A (eval e1 env) P E s) (h2 : b = false → wpAny (model pg w) A (eval e2 env) P E s) :
    if b then wpAny (model pg w) A (eval e1 env) Q E s else wpAny (model pg w) A (eval e2 env) Q E s := by
  cases b with
  | true => exact wpAny_mono (h1 rfl) k fun _ _ x => x
  | false => exact wpAny_mono (h2 rfl) k fun _ _ x => x

theorem law_head {Q : Flow → Shared → Prop} {D : Addr} {ys : Array Value} {nn : Nat} {zs : List Int} (M : DM fa mg mb g c8 P8 c9 P9) (hA : A.handled = none) (hroom : A.depth + 60 < recursionLimit)
    (S : St g L (lc 21) ((List.replicate 25 none).set 0 (some (.ref D))) own h) (hD : g.get? D = some (lst ys nn)) (hz : IntsAre ys.toList zs) (hlen : zs.length = 6)
    (k : ∀ (c ou : Nat) (x : Int) NA nits n2 ys' g' h' t' tc to tx, (c = 3 ∨ c = 4) → ou < 4 → x.natAbs ≤ 10 ^ 60 + 2 → Keep g g' → 0 < to → to < t' → g'.get? NA = some (lst nits n2) → StrsAre nits.toList ys' → ys'.length = c → ys'.Pairwise ltS →
      St g' L (lc 21) ([some (.ref D), some (.int (c : Int) tc), some (.str (opU ou) to), some (.int x tx), some (.ref NA)] ++ List.replicate 20 none) own h' →
      wpAny (model pg w) A (execs (tl 5) (envOfC (nm 21) (sc 21) L a cd)) Q E ⟨h', gn, d, t', os⟩) :
    wpAny (model pg w) A (execs (tl 1) (envOfC (nm 21) (sc 21) L a cd)) Q E ⟨h, gn, d, t, os⟩ := by
  have hDl : ∀ {h'}, Keep g h' → h'.IsList D ys := fun hk => isList_of (hk _ _ hD)
  obtain ⟨u5, hu5⟩ := ints_get hz (k := 5) (by lia)
  obtain ⟨u0, hu0⟩ := ints_get hz (k := 0) (by lia)
  generalize zs.getD 5 0 = z5 at *
  generalize zs.getD 0 0 = z0 at *
  -- count
  refine wpAny_execs_cons (wpAny_Assign_Name (wpAny_IfExp (wpAny_isTrue_Compare1 (wpAny_BinOp (wpAny_BinOp ?_)))))
  refine Subscript_Constant (r_loc S v21_sums rfl (c_int fun t₂ => item_nn (k := 5) (x := .int z5 u5) (hDl S.keep) (by lia) (by simpa using hu5) ?_))
  refine c_int fun t₃ => o_fdiv (by decide) (PyProof.noPylong_small (by decide)) fun u₁ t₄ => c_int fun t₅ => o_mod (by decide) fun u₂ t₆ => c_int fun t₇ => o_eq (wpAny_truthy_bool ?_)
  refine if_two (P := fun v s' => ∃ (c : Nat) (tk : Tok) (t' : Nat), v = .int (c : Int) tk ∧ (c = 3 ∨ c = 4) ∧ s' = ⟨h, gn, d, t', os⟩) ?_ (fun _ => c_int fun t₈ => ⟨4, _, _, rfl, .inr rfl, rfl⟩) (fun _ => c_int fun t₈ => ⟨3, _, _, rfl, .inl rfl, rfl⟩)
  rintro v s' ⟨c, tc, t₈, rfl, hc, rfl⟩
  refine r_stK S v21_count fun h₂ S₂ => ?_
  -- opening
  refine wpAny_execs_cons (wpAny_Assign_Name (sub_lit (List_ (acons (c_strK (acons (c_strK (acons (c_strK (acons (c_strK (anil ?_))))))))))))
  refine new_list (le_line (by show 4 ≤ _; lia)) ?_
  have S₃ := (S₂.push (lst #[.str "(" (t₈ + 1), .str "\\)(" (t₈ + 1 + 1), .str "\")\"(" (t₈ + 1 + 1 + 1), .str "\\\\(" (t₈ + 1 + 1 + 1 + 1)] 0))
  refine wpAny_with_toks (n := t₈ + 5) (Nat.le_refl _) ?_
  refine wpAny_BinOp (Subscript_Constant (r_loc S₃ v21_sums rfl (c_int fun t₉ => item_nn (k := 5) (x := .int z5 u5) (hDl S₃.keep) (by lia) (by simpa using hu5) ?_)))
  refine c_int fun t₁₀ => o_mod (by decide) fun u₃ t₁₁ ht₁₁ => ?_
  have q1 := Int.fmod_nonneg_of_pos z5 (show (0 : Int) < 4 by decide)
  have q2 := Int.fmod_lt_of_pos z5 (show (0 : Int) < 4 by decide)
  generalize z5.fmod 4 = ou at q1 q2
  obtain ⟨ou, rfl⟩ := Int.eq_ofNat_of_zero_le q1
  have hou : ou < 4 := by lia
  have hitem : ∃ to, (#[Value.str "(" (t₈ + 1), .str "\\)(" (t₈ + 1 + 1), .str "\")\"(" (t₈ + 1 + 1 + 1), .str "\\\\(" (t₈ + 1 + 1 + 1 + 1)] : Array Value)[ou]? = some (.str (opU ou) to) ∧ 0 < to ∧ to < t₈ + 5 := by
    match ou, hou with
    | 0, _ => exact ⟨t₈ + 1, rfl, Nat.succ_pos _, Nat.add_lt_add_left (by decide) t₈⟩
    | 1, _ => exact ⟨t₈ + 2, rfl, Nat.succ_pos _, Nat.add_lt_add_left (by decide) t₈⟩
    | 2, _ => exact ⟨t₈ + 3, rfl, Nat.succ_pos _, Nat.add_lt_add_left (by decide) t₈⟩
    | 3, _ => exact ⟨t₈ + 4, rfl, Nat.succ_pos _, Nat.add_lt_add_left (by decide) t₈⟩
  obtain ⟨to, hto, hto0, hto1⟩ := hitem
  have ht₁₁' : t₈ + 5 ≤ t₁₁ := ht₁₁
  refine item_nn (isList_of (S₃.isOwn _ (.head _)).1) (by lia) hto ?_
  refine r_stK S₃ v21_opening fun h₃ S₄ => ?_
  have S₄ := S₄.drop (List.sublist_cons_self _ _)
  clear S₃ hto
  -- x
  refine wpAny_execs_cons (wpAny_with_toks (n := to + 1) (Nat.succ_le_succ (Nat.le_trans (Nat.le_of_lt hto1) ht₁₁')) ?_)
  refine wpAny_Assign_Name (wpAny_BinOp (c_int fun t₁₂ => wpAny_IfExp (wpAny_isTrue_Compare1 ?_)))
  refine Subscript_Constant (r_loc S₄ v21_sums rfl (c_int fun t₁₃ => item_nn (k := 0) (x := .int z0 u0) (hDl S₄.keep) (by lia) (by simpa using hu0) ?_))
  refine c_int fun t₁₄ => P.ge_int (wpAny_truthy_bool ?_)
  have hp : (10 : Int) ^ ((60 : Int).toNat) = 10 ^ 60 := rfl
  refine if_two (P := fun v s' => ∃ (y : Int) (tk : Tok) (t' : Nat), v = .int y tk ∧ y.natAbs ≤ 10 ^ 60 ∧ s' = ⟨h₃, gn, d, t', os⟩) ?_ (fun _ => ?_) (fun _ => ?_)
  rotate_left
  · refine wpAny_BinOp (Subscript_Constant (r_loc S₄ v21_sums rfl (c_int fun t₁₃ => item_nn (k := 0) (x := .int z0 u0) (hDl S₄.keep) (by lia) (by simpa using hu0) ?_)))
    refine wpAny_BinOp (c_int fun t₁₅ => c_int fun t₁₆ => o_pow (by decide) (by decide +kernel) fun u₄ t₁₇ => o_mod (by decide +kernel) fun u₅ t₁₈ => ⟨_, _, _, rfl, ?_, rfl⟩)
    rw [hp]
    have r1 := Int.fmod_nonneg_of_pos z0 (show (0 : Int) < 10 ^ 60 by decide +kernel)
    have r2 := Int.fmod_lt_of_pos z0 (show (0 : Int) < 10 ^ 60 by decide +kernel)
    lia
  · refine wpAny_UnaryOp (wpAny_BinOp (wpAny_UnaryOp ?_))
    refine Subscript_Constant (r_loc S₄ v21_sums rfl (c_int fun t₁₃ => item_nn (k := 0) (x := .int z0 u0) (hDl S₄.keep) (by lia) (by simpa using hu0) ?_))
    refine o_neg fun u₄ t₁₅ => wpAny_BinOp (c_int fun t₁₆ => c_int fun t₁₇ => o_pow (by decide) (by decide +kernel) fun u₅ t₁₈ => o_mod (by decide +kernel) fun u₆ t₁₉ => o_neg fun u₇ t₂₀ => ⟨_, _, _, rfl, ?_, rfl⟩)
    rw [hp]
    have r1 := Int.fmod_nonneg_of_pos (-z0) (show (0 : Int) < 10 ^ 60 by decide +kernel)
    have r2 := Int.fmod_lt_of_pos (-z0) (show (0 : Int) < 10 ^ 60 by decide +kernel)
    lia
  rintro v s' ⟨y, ty, t₁₅, rfl, hy, rfl⟩
  refine o_add fun tx t₁₆ => r_st S₄ v21_x fun h₄ t₁₇ S₅ _ ht₁₇ => ?_
  have hx : (2 + y).natAbs ≤ 10 ^ 60 + 2 := by lia
  generalize (2 : Int) + y = x at *
  -- names
  refine wpAny_execs_cons (wpAny_with_toks (n := to + 1) ht₁₇ ?_)
  refine wpAny_Assign_Name (Call_ (r_fn S₅ M.base g21__law_names (by decide) ?_))
  refine call_fn M.base (by decide) (acons (r_loc S₅ v21_sums rfl (acons (r_loc S₅ v21_count rfl (anil ⟨S₅.keep, wpAny_call ?_⟩)))))
  refine names_spec (M.base.keeps S₅.keep) hA (by lia) (hDl S₅.keep) hz hlen (by lia) fun h₅ t₁₈ NA nits n2 ys' hk₅ hN hNA hs hl hpw => ?_
  have S₆ := S₅.adopt hk₅ hNA hN
  refine r_st S₆ v21_names fun h₆ t₁₉ S₇ _ ht₁₉ => ?_
  obtain ⟨g', hg', hN', S₈⟩ := St.freeze (ex := [(NA, lst nits n2)]) S₇
  exact k c ou x NA nits n2 ys' g' h₆ t₁₉ tc to tx hc hou hx hg' hto0 ht₁₉ (hN' _ (.head _)) hs hl hpw S₈
end
end Mine
end
-- part M33
section
set_option maxRecDepth 100000
set_option linter.unusedVariables false
set_option maxHeartbeats 4000000
namespace Mine
open PyProof PySem PySem.Calls PyProof.Rows PySem.W PySem.W.X

section
variable {w : World} {A : Around} {E : Value → Shared → Prop} {h h' : Heap} {gn : Array GenState} {d : Drawn} {t : Nat} {os : OsState} {g : Heap} {L : Addr} {i : Nat} {vals : List (Option Value)} {own : List (Addr × Obj)}
/-- falling keys: each is asked against the one ahead of it, then all are turned round -/
theorem down3 {cmp : Nat → Nat → (Bool → Shared → Prop) → Shared → Prop} {Q : Array Nat → Shared → Prop} {s : Shared} (c : ∀ i j C s, j < i → i < 3 → C true s → cmp i j C s) (q : Q #[2, 1, 0] s) : (kas_sort 3).kasWp cmp Q s :=
  c 1 0 _ s (by decide) (by decide) (c 2 1 _ s (by decide) (by decide) q)
theorem down4 {cmp : Nat → Nat → (Bool → Shared → Prop) → Shared → Prop} {Q : Array Nat → Shared → Prop} {s : Shared} (c : ∀ i j C s, j < i → i < 4 → C true s → cmp i j C s) (q : Q #[3, 2, 1, 0] s) : (kas_sort 4).kasWp cmp Q s :=
  c 1 0 _ s (by decide) (by decide) (c 2 1 _ s (by decide) (by decide) (c 3 2 _ s (by decide) (by decide) q))
theorem down_all {cmp : Nat → Nat → (Bool → Shared → Prop) → Shared → Prop} {Q : List Value → Shared → Prop} {s : Shared} {vs : List Value} (hn : vs.length = 3 ∨ vs.length = 4) (c : ∀ i j C s, j < i → i < vs.length → C true s → cmp i j C s) (q : Q vs.reverse s) :
    (kas_sort vs.length).kasWp cmp (fun p s => Q (p.toList.map fun i => vs.getD i Value.none) s) s := by
  rcases hn with hn | hn
  · obtain ⟨a, b, e, rfl⟩ : ∃ a b c, vs = [a, b, c] := by
      match vs, hn with | [a, b, c], _ => exact ⟨a, b, c, rfl⟩
    exact down3 c q
  · obtain ⟨a, b, e, f, rfl⟩ : ∃ a b c e, vs = [a, b, c, e] := by
      match vs, hn with | [a, b, c, e], _ => exact ⟨a, b, c, e, rfl⟩
    exact down4 c q
/-- each text is its own key -/
theorem keys_own {m : Str → Option Value} {D kS e1 : Nat} {f : Value} {all : List (Addr × Obj)} {Fin : List Value → Nat → Shared → Prop} (hD : D < kS) (hq : ∀ p ∈ all, p.1 < D) : ∀ (r ks : List Value) (e : Nat) (h : Heap) (t : Nat),
    (∀ v h t, v ∈ r → Fr {} L h m → News {} L h all → wpAny (model pg w) A (call f [v]) (fun x s => x = v ∧ ∃ h' t', s = ⟨h', gn, d, t', os⟩ ∧ Keep h h') (fun _ _ => False) ⟨h, gn, d, t, os⟩) →
    Fr {} L h m → News {} L h ((kS, seqObj "list" ks.toArray e) :: (D, seqObj "list" #[] e1) :: all) →
    (∀ h t e, Fr {} L h m → News {} L h ((kS, seqObj "list" (ks ++ r).toArray e) :: (D, seqObj "list" #[] e1) :: all) → Fin (ks ++ r) e ⟨h, gn, d, t, os⟩) →
    KatKeys pg w A {} L m kS f Fin r ks e ⟨h, gn, d, t, os⟩ := by
  intro r
  induction r with
  | nil => intro ks e h t _ F N fin; rw [List.append_nil] at fin; exact fin h t e F N
  | cons v r ih =>
    intro ks e h t turn F N fin
    refine wpAny_mono (turn v h t (.head _) F fun p hp => N p (.tail _ (.tail _ hp))) ?_ fun _ _ x => x
    rintro _ _ ⟨rfl, h₂, t₂, rfl, hk⟩
    refine KatBack.intro (F.kept hk) (N.grown hk) (.head fun p hp => ?_) fun h₃ e₃ F₃ N₃ => ih _ e₃ h₃ t₂ (fun v' h t hv => turn v' h t (.tail _ hv)) F₃ N₃ (by simpa using fin)
    rcases List.mem_cons.mp hp with rfl | hp
    · exact Nat.ne_of_lt hD
    · exact Nat.ne_of_lt (Nat.lt_trans (hq p hp) hD)
/-- sorted, with a key that gives each text back, of three or four texts that fall: they come out turned round -/
theorem o_sorted {ns : List Str} {l f : Addr} {vs : List Value} {ss : List Str} {Q : Value → Shared → Prop} (S : St g L ns vals own h) (hl : h.IsList l vs.toArray) (hS : StrsAre vs ss) (hd : ss.Pairwise fun x y => ltS y x) (hn : vs.length = 3 ∨ vs.length = 4)
    (turn : ∀ v h' t', v ∈ vs → St g L ns vals own h' → wpAny (model pg w) A.in1.in1 (call (.ref f) [v]) (fun r s' => r = v ∧ ∃ h'' t'', s' = ⟨h'', gn, d, t'', os⟩ ∧ Keep h' h'') (fun _ _ => False) ⟨h', gn, d, t', os⟩)
    (k : ∀ h' t' D, St g L ns vals own h' → h'.IsList D vs.reverse.toArray → Q (.ref D) ⟨h', gn, d, t', os⟩) :
    wpAny (model pg w) A (call (.builtin "sorted") [.ref l] [("key", .ref f)]) Q E ⟨h, gn, d, t, os⟩ := by
  obtain ⟨all, F, N, back⟩ := S.asNews
  refine kat_sortedK (s := ⟨h, gn, d, t, os⟩) (b := false) (f := .ref f) F N hl (by lia) (by lia) (ksk_s1 _ _) (fun _ => ksk_l1 _ _) (fun _ => ksk_t1 _ _) fun D kS e1 h₁ F₁ N₁ hD hq => ?_
  refine keys_own hD hq vs [] 0 h₁ t (fun v h t hv F N => turn v h t hv (back h F N)) F₁ N₁ fun h₂ t₂ e₂ F₂ N₂ => ?_
  have hk : keyKind' vs.toArray = pure oneType' := by
    match vs, hS, hn with
    | v₁ :: v₂ :: r, hS, _ => exact keyKind_strs hS
  show wpAny _ _ (keyKind' vs.toArray) _ _ _
  rw [hk]
  refine wpAny_pure ?_
  refine down_all (cmp := kas_ask pg w A.in1.in1 oneType' vs) (Q := fun out s => KatFin {} L (slot ns vals) kS D vs e₂ e1 out (fun s => Q (.ref D) s) s) hn (fun i j C s hji hi hC => ?_) ?_
  · obtain ⟨x, u, hx, ex⟩ := strs_at hS (List.getElem?_eq_getElem hi)
    obtain ⟨y, v, hy, ey⟩ := strs_at hS (List.getElem?_eq_getElem (Nat.lt_trans hji hi))
    have lt : ltS x y := by
      obtain ⟨hi', rfl⟩ := List.getElem?_eq_some_iff.mp ex
      obtain ⟨hj', rfl⟩ := List.getElem?_eq_some_iff.mp ey
      exact List.pairwise_iff_getElem.mp hd j i hj' hi' hji
    show wpAny _ _ (keyLt' oneType' (vs.getD i Value.none) (vs.getD j Value.none)) _ _ _
    rw [show vs.getD i Value.none = .str x u by simp [hi, hx], show vs.getD j Value.none = .str y v by simp [Nat.lt_trans hji hi, hy]]
    refine kas_lt_str ?_
    rwa [decide_eq_true (show x.cps.toList < y.cps.toList from lt)]
  · refine KatFin.intro F₂ N₂ (.head fun p hp => ?_) fun h₃ e₃ F₃ N₃ => KasFin.intro F₃ N₃ (.tail (Nat.ne_of_gt hD) (.head fun p hp => Nat.ne_of_lt (hq p hp))) fun h₄ e₄ F₄ N₄ => k h₄ t₂ D (back h₄ F₄ fun p hp => N₄ p (.tail _ (.tail _ hp))) ?_
    · rcases List.mem_cons.mp hp with rfl | hp
      · exact Nat.ne_of_lt hD
      · exact Nat.ne_of_lt (Nat.lt_trans (hq p hp) hD)
    · exact isList_of (N₄ _ (.tail _ (.head _))).1
end
end Mine
end
-- part M34
section
set_option maxRecDepth 100000
set_option linter.unusedVariables false
set_option maxHeartbeats 4000000
namespace Mine
open PyProof PySem PySem.Calls PyProof.Rows PySem.W PySem.W.X

noncomputable def ordU (i j : Nat) : Int := if i = j then 0 else if i < j then -1 else 1
theorem coll_names {ys : List Str} (h : ys.Pairwise ltS) {i j : Nat} (hi : i < ys.length) (hj : j < ys.length) : coll (ys.getD i "") (ys.getD j "") = ordU i j := by
  rw [List.getD, List.getD, List.getElem?_eq_getElem hi, List.getElem?_eq_getElem hj]
  show coll ys[i] ys[j] = _
  rw [List.pairwise_iff_getElem] at h
  unfold ordU
  by_cases e : i = j
  · subst e; rw [if_pos rfl]; exact coll_self _
  · rw [if_neg e]
    by_cases l : i < j
    · rw [if_pos l]; exact (coll_lt (h i j hi hj l)).1
    · rw [if_neg l]; exact (coll_lt (h j i hj hi (by lia))).2

section
variable {w : World} {A : Around} {E : Value → Shared → Prop} {h h' : Heap} {gn : Array GenState} {d : Drawn} {t : Nat} {os : OsState} {g : Heap} {L a : Addr} {i : Nat} {vals : List (Option Value)} {own : List (Addr × Obj)}
  {fa : Nat → Addr} {mg mb : Str → Option Value} {n : Str} {cd : Value} {pos : Pos} {sco : Scope} {env : Env} {ns : List Str} {c8 P8 c9 P9 : Addr} {τ8 τ9 rest : List (Addr × Obj)}
theorem o_ne {x y : Int} {t1 t2 : Tok} {s : Shared} {Q : Value → Shared → Prop} (c : Q (.bool (x != y)) s) : wpAny (model pg w) A (compareOp .NotEq (.int x t1) (.int y t2)) Q E s := P.ne_int c
theorem n_eq {x y : Nat} {t1 t2 : Tok} {s : Shared} {Q : Value → Shared → Prop} (c : Q (.bool (decide (x = y))) s) : wpAny (model pg w) A (compareOp .Eq (.int (x : Int) t1) (.int (y : Int) t2)) Q E s := o_eq (by
  have e : ((x : Int) == (y : Int)) = decide (x = y) := by
    by_cases q : x = y
    · subst q; simp
    · rw [decide_eq_false q]; simpa using fun e : (x : Int) = (y : Int) => q (by lia)
  rw [e]; exact c)
theorem n_lt {x y : Nat} {t1 t2 : Tok} {s : Shared} {Q : Value → Shared → Prop} (c : Q (.bool (decide (x < y))) s) : wpAny (model pg w) A (compareOp .Lt (.int (x : Int) t1) (.int (y : Int) t2)) Q E s := o_lt (by
  have e : decide ((x : Int) < (y : Int)) = decide (x < y) := by
    by_cases q : x < y
    · rw [decide_eq_true q, decide_eq_true (by lia)]
    · rw [decide_eq_false q, decide_eq_false (by lia)]
  rw [e]; exact c)

noncomputable abbrev V5 (D : Addr) (c : Nat) (tc : Tok) (ou : Nat) (to : Tok) (x : Int) (tx : Tok) (NA : Addr) : List (Option Value) := [some (.ref D), some (.int (c : Int) tc), some (.str (opU ou) to), some (.int x tx), some (.ref NA)]

theorem law_coll {Q : Flow → Shared → Prop} {D NA : Addr} {c ou : Nat} {x : Int} {tc to tx : Tok} {nits : Array Value} {n2 : Nat} {ys : List Str} (M : DM fa mg mb g c8 P8 c9 P9) (hA : A.handled = none) (hroom : A.depth + 60 < recursionLimit)
    (hc : c = 3 ∨ c = 4) (hN : g.get? NA = some (lst nits n2)) (hys : StrsAre nits.toList ys) (hyl : ys.length = c) (hpw : ys.Pairwise ltS)
    (S : St g L (lc 21) (V5 D c tc ou to x tx NA ++ List.replicate 20 none) own h)
    (k : ∀ v5 v6 h' t', t ≤ t' → St g L (lc 21) (V5 D c tc ou to x tx NA ++ v5 :: v6 :: List.replicate 18 none) own h' →
      wpAny (model pg w) A (execs (tl 6) (envOfC (nm 21) (sc 21) L a cd)) Q (fun _ _ => False) ⟨h', gn, d, t', os⟩) :
    wpAny (model pg w) A (execs (tl 5) (envOfC (nm 21) (sc 21) L a cd)) Q (fun _ _ => False) ⟨h, gn, d, t, os⟩ := by
  have hNl : ∀ {h'}, Keep g h' → h'.IsList NA nits := fun hk => isList_of (hk _ _ hN)
  refine wpAny_execs_cons (wpAny_For (Call_ (r_bt S M.base g21_range b_range (cw_type (acons (r_loc S v21_count rfl (anil ?_)))))))
  refine wpAny_with_toks (n := t) (Nat.le_refl _) ?_
  refine o_range1 fun h₂ r u v t₂ hk₂ hz₂ hr₂ hR ht₂ => ?_
  have hrs : Builtin.Range.rangeSize 0 (c : Int) 1 = (c : Int) := by rw [rangeSize_nat]; lia
  refine for_range2 hA (S.keeps hk₂) hR (small_one (by lia) (by lia) (by lia) (by lia)) hrs v21_i (fun i vals own' => own' = own ∧ ∃ v5 v6, vals = V5 D c tc ou to x tx NA ++ v5 :: v6 :: List.replicate 18 none) ?_ ?_ ⟨rfl, _, _, rfl⟩
  · intro i tk vals own' g₂ h₃ t₃ gn₁ hi hle hpat10 hg₂ heq12 S₃
    refine abs_q fun Q1 hQ1 => ?_
    obtain ⟨rfl, v5, v6, rfl⟩ := hpat10
    subst heq12
    have ei : (0 + (i : Int) * 1) = ((i : Nat) : Int) := by lia
    rw [ei] at S₃
    refine wpAny_execs_cons (wpAny_For (Call_ (r_bt S₃ (M.base.keeps hg₂) g21_range b_range (cw_type (acons (r_loc S₃ v21_count rfl (anil ?_)))))))
    refine o_range1 fun h₄ r₂ u₂ v₂ t₄ hk₄ hz₄ hr₄ hR₄ => ?_
    refine for_range2 hA (S₃.keeps hk₄) hR₄ (small_one (by lia) (by lia) (by lia) (by lia)) hrs v21_j (fun j vals own'' => own'' = own' ∧ ∃ v6, vals = V5 D c tc ou to x tx NA ++ some (.int (i : Int) tk) :: v6 :: List.replicate 18 none) ?_ ?_ ⟨rfl, _, rfl⟩
    · intro j tk₂ vals own'' g₃ h₅ t₅ gn₂ hj hle₂ hpat10 hg₃ heq12 S₅
      refine abs_q fun Q2 hQ2 => ?_
      obtain ⟨rfl, v6, rfl⟩ := hpat10
      subst heq12
      have ej : (0 + (j : Int) * 1) = ((j : Nat) : Int) := by lia
      rw [ej] at S₅
      have B₃ := (M.base.keeps hg₂).keeps hg₃
      have hNl5 : h₅.IsList NA nits := hNl fun b o e => S₅.keep b o (hg₃ b o (hg₂ b o e))
      obtain ⟨ti, hxi⟩ := strs_get hys (k := i) (by lia)
      obtain ⟨tj, hxj⟩ := strs_get hys (k := j) (by lia)
      have hcc := coll_names hpw (i := i) (j := j) (by lia) (by lia)
      refine wpAny_execs_cons (wpAny_If (wpAny_isTrue_Compare1 (Call_ (r_fn S₅ B₃ g21__strcoll (by decide) ?_))))
      refine call_fn B₃ (by decide) (acons ?_)
      refine Subscript_Name (r_loc S₅ v21_names rfl (r_loc S₅ v21_i rfl (item_nn (x := .str (ys.getD i "") ti) hNl5 (by lia) (by simpa using hxi) (acons ?_))))
      refine Subscript_Name (r_loc S₅ v21_names rfl (r_loc S₅ v21_j rfl (item_nn (x := .str (ys.getD j "") tj) hNl5 (by lia) (by simpa using hxj) (anil ⟨S₅.keep, wpAny_call ?_⟩))))
      refine strcoll_spec (B₃.keeps S₅.keep) (by lia) fun h₆ t₆ tk₃ hk₆ => ?_
      have S₆ := S₅.keeps hk₆
      refine wpAny_IfExp (wpAny_isTrue_Compare1 (r_loc S₆ v21_i rfl (r_loc S₆ v21_j rfl (n_eq (wpAny_truthy_bool ?_)))))
      refine if_two (P := fun v s' => ∃ (tk : Tok) (t' : Nat), v = .int (ordU i j) tk ∧ s' = ⟨h₆, gn, d, t', os⟩) ?_ (fun e => c_int fun t₇ => ⟨_, _, congrArg (fun z => Value.int z _) ?_, rfl⟩) (fun e => ?_)
      · rintro v s' ⟨tk₄, t₇, rfl, rfl⟩
        rw [hcc]
        refine o_ne (wpAny_truthy_bool ?_)
        rw [bne_self_eq_false, if_neg Bool.false_ne_true]
        repeat refine wpAny_execs_nil ?_
        exact hQ2 _ _ (.inl ⟨rfl, _, _, _, _, _, rfl, rfl, S₆, rfl, _, rfl⟩)
      · have e' : i = j := by simpa using e
        unfold ordU; rw [if_pos e']
      · have e' : ¬ i = j := by simpa using e
        refine wpAny_IfExp (wpAny_isTrue_Compare1 (r_loc S₆ v21_i rfl (r_loc S₆ v21_j rfl (n_lt (wpAny_truthy_bool ?_)))))
        refine if_two (P := fun v s' => ∃ (tk : Tok) (t' : Nat), v = .int (ordU i j) tk ∧ s' = ⟨h₆, gn, d, t', os⟩) (fun _ _ q => q) (fun e2 => ?_) (fun e2 => c_int fun t₇ => ⟨_, _, congrArg (fun z => Value.int z _) ?_, rfl⟩)
        · refine wpAny_UnaryOp (c_int fun t₇ => o_neg fun u₃ t₈ => ⟨_, _, congrArg (fun z => Value.int z _) ?_, rfl⟩)
          have e3 : i < j := by simpa using e2
          unfold ordU; rw [if_neg e', if_pos e3]
        · have e3 : ¬ i < j := by simpa using e2
          unfold ordU; rw [if_neg e', if_neg e3]
    · rintro vals own'' h₅ t₅ gn₂ ⟨rfl, v6, rfl⟩ hle₂ rfl S₅
      repeat refine wpAny_execs_nil ?_
      exact hQ1 _ _ (.inl ⟨rfl, _, _, _, _, _, rfl, rfl, S₅, rfl, _, _, rfl⟩)
  · rintro vals own' h₃ t₃ gn₁ ⟨rfl, v5, v6, rfl⟩ hle rfl S₃
    exact k v5 v6 h₃ t₃ (Nat.le_trans ht₂ hle) S₃
end
end Mine
end
-- part M35
section
set_option maxRecDepth 100000
set_option linter.unusedVariables false
set_option maxHeartbeats 4000000
namespace Mine
open PyProof PySem PySem.Calls PyProof.Rows PySem.W PySem.W.X

theorem strs_uniq {vs : List Value} {ys zs : List Str} (h : StrsAre vs ys) (h2 : StrsAre vs zs) : ys = zs := by rw [← h.strs, h2.strs]
noncomputable def HungF (ex : List (Addr × Obj)) (v y : Value) : Prop := ∀ a its n os, v = .ref a → (a, lst its n) ∈ ex → StrsAre its.toList os → ∃ tk, y = .str (hungU 5 os) tk
theorem paired_hung {ex : List (Addr × Obj)} {vs hs : List Value} {oss : List (List Str)} (ho : Objs ex vs oss) (hp : Paired (HungF ex) vs hs) : StrsAre hs (oss.map (hungU 5)) := by
  induction ho generalizing hs with
  | nil => cases hp; exact .nil
  | cons hm hi _ ih =>
    cases hp with
    | cons hf hr =>
      obtain ⟨tk, rfl⟩ := hf _ _ _ _ rfl hm hi
      exact .cons _ tk (ih hr)

section
variable {w : World} {A : Around} {E : Value → Shared → Prop} {h h' : Heap} {gn : Array GenState} {d : Drawn} {t : Nat} {os : OsState} {g : Heap} {L a : Addr} {i : Nat} {vals : List (Option Value)} {own : List (Addr × Obj)}
  {fa : Nat → Addr} {mg mb : Str → Option Value} {n : Str} {cd : Value} {pos : Pos} {sco : Scope} {env : Env} {ns : List Str} {c8 P8 c9 P9 : Addr} {τ8 τ9 rest : List (Addr × Obj)}
theorem Call_kwN {x : Str} {p pos : Pos} {args : List PySem.Expr} {kws : List Keyword} {s : Shared} {Q : Value → Shared → Prop}
    (h : wpAny (model pg w) A (eval (.Name x p) env) (fun f s₁ => wpAny (model pg w) A (callWith pos f [] (backTo pos (starEach args env)) (backToKw pos (keywordEach kws env))) Q E s₁) E s) :
    wpAny (model pg w) A (eval (.Call (.Name x p) args kws pos) env) Q E s := wpAny_bind h
theorem law_sort {Q : Flow → Shared → Prop} {D NA : Addr} {c ou : Nat} {x : Int} {tc to tx : Tok} {nits : Array Value} {n2 : Nat} {ys : List Str} {v5 v6 : Option Value} (M : DM fa mg mb g c8 P8 c9 P9) (hA : A.handled = none) (hroom : A.depth + 60 < recursionLimit) (hu : A.units + 100 < cLine)
    (hc : c = 3 ∨ c = 4) (hN : g.get? NA = some (lst nits n2)) (hys : StrsAre nits.toList ys) (hyl : ys.length = c) (hpw : ys.Pairwise ltS)
    (S : St g L (lc 21) (V5 D c tc ou to x tx NA ++ v5 :: v6 :: List.replicate 18 none) own h)
    (k : ∀ h' t', t ≤ t' → St g L (lc 21) (V5 D c tc ou to x tx NA ++ v5 :: v6 :: List.replicate 18 none) own h' →
      wpAny (model pg w) A (execs (tl 7) (envOfC (nm 21) (sc 21) L a cd)) Q (fun _ _ => False) ⟨h', gn, d, t', os⟩) :
    wpAny (model pg w) A (execs (tl 6) (envOfC (nm 21) (sc 21) L a cd)) Q (fun _ _ => False) ⟨h, gn, d, t, os⟩ := by
  have hNl : ∀ {h'}, Keep g h' → h'.IsList NA nits := fun hk => isList_of (hk _ _ hN)
  have hnl : nits.size = c := by have := strs_len hys; rw [hyl] at this; simpa using this
  refine wpAny_execs_cons (wpAny_with_toks (n := t) (Nat.le_refl _) (wpAny_If (wpAny_isTrue_Compare1 (Call_kwN ?_))))
  refine r_bt S M.base g21_sorted b_sorted ?_
  refine callWith_kw (acons ?_)
  refine wpAny_Subscript_Slice_step list_getitem_lookup (r_loc S v21_names rfl (wpAny_Slice (wpAny_pure (wpAny_pure ?_))))
  rw [evalPart_some]
  refine wpAny_UnaryOp (c_int fun t₂ => o_neg fun u₁ t₃ => ⟨((hNl S.keep).push _).typeIs, ?_⟩)
  refine wpAny_getItem_list_slice ((hNl S.keep).push _) (Heap.IsSliceOf.new ..) .none .none (.int _ _) (by simp) (anil ?_) (le_line (by lia))
  rw [krv_pick]
  have S₂ : St g L (lc 21) _ own (((h.push { cls := .type "slice", data := .fields #[.none, .none, .int (-1) u₁] })).push (lst nits.toList.reverse.toArray 0)) := S.keeps fun b o e => Heap.get?_push_of_some _ (Heap.get?_push_of_some _ e)
  have hR : (((h.push { cls := .type "slice", data := .fields #[.none, .none, .int (-1) u₁] })).push (lst nits.toList.reverse.toArray 0)).IsList (h.push { cls := .type "slice", data := .fields #[.none, .none, .int (-1) u₁] }).objs.size nits.toList.reverse.toArray := isList_of (Heap.get?_push_size _ rfl)
  refine wpAny_evalAll_cons ?_
  show wpAny _ _ (do let v ← eval (.Name "_strxfrm" _) (envOfC (nm 21) (sc 21) L a cd); standAt _; pure v) _ _ _
  refine wpAny_bind (r_fn S₂ M.base g21__strxfrm (by decide) (wpAny_bind (wpAny_standAt (wpAny_pure (wpAny_evalAll_nil ?_)))))
  have hrev : StrsAre nits.toList.reverse ys.reverse := by
    have : ∀ {vs : List Value} {zs : List Str}, StrsAre vs zs → StrsAre vs.reverse zs.reverse := fun hh => by
      induction hh with
      | nil => exact .nil
      | cons y u _ ih => rw [List.reverse_cons, List.reverse_cons]; exact strs_snoc ih
    exact this hys
  refine o_sorted (l := _) (f := fa 14) S₂ hR hrev (List.pairwise_reverse.mpr hpw) (by rw [List.length_reverse, Array.length_toList, hnl]; exact hc) (fun v h' t' hv S' => ?_) fun h₃ t₄ R S₃ hRo => ?_
  · exact wpAny_call (strxfrm_spec (M.base.keeps S'.keep) (by show A.depth < _; lia) fun h'' t'' hk'' => ⟨rfl, h'', t'', rfl, hk''⟩)
  rw [List.reverse_reverse, Array.toArray_toList] at hRo
  refine r_loc S₃ v21_names rfl ?_
  refine PySem.SeqAt.RcNeAt.lists (s := ⟨h₃, gn, d, t₄, os⟩) (e := fun _ => true) hRo (hNl S₃.keep) (by lia) (by lia) (fun j q1 q2 => ?_) pg w _ _ ?_
  · obtain ⟨y1, u1, e1, _⟩ := strs_at hys (k := j) (v := nits[j]) (by simp [q1])
    rw [e1]
    have := PySem.SeqAt.EqAt.str_str (A := A.in1) (s := ⟨h₃, gn, d, t₄, os⟩) y1 u1 y1 u1
    rwa [beq_self_eq_true] at this
  · refine wpAny_truthy_bool ?_
    rw [show (!(List.range nits.size).all fun _ => true) = false by simp, if_neg Bool.false_ne_true]
    exact wpAny_execs_nil fun ht => k h₃ t₄ ht S₃
end
end Mine
end
-- part M36
section
set_option maxRecDepth 100000
set_option linter.unusedVariables false
set_option maxHeartbeats 4000000
namespace Mine
open PyProof PySem PySem.Calls PyProof.Rows PySem.W PySem.W.X

section
variable {w : World} {A : Around} {E : Value → Shared → Prop} {h h' : Heap} {gn : Array GenState} {d : Drawn} {t : Nat} {os : OsState} {g : Heap} {L a : Addr} {i : Nat} {vals : List (Option Value)} {own : List (Addr × Obj)}
  {fa : Nat → Addr} {mg mb : Str → Option Value} {n : Str} {cd : Value} {pos : Pos} {sco : Scope} {env : Env} {ns : List Str} {c8 P8 c9 P9 : Addr} {τ8 τ9 rest : List (Addr × Obj)}
theorem g21__law_hungX : nm 18 = "_law_hung" := by decide +kernel
theorem law_hung {Q : Flow → Shared → Prop} {D NA : Addr} {c ou : Nat} {x : Int} {tc to tx : Tok} {nits : Array Value} {n2 : Nat} {ys : List Str} {v5 v6 : Option Value} (M : DM fa mg mb g c8 P8 c9 P9) (hA : A.handled = none) (hroom : A.depth + 60 < recursionLimit) (hu : A.units + 100 < cLine)
    (hc : c = 3 ∨ c = 4) (hN : g.get? NA = some (lst nits n2)) (hys : StrsAre nits.toList ys) (hyl : ys.length = c)
    (S : St g L (lc 21) (V5 D c tc ou to x tx NA ++ v5 :: v6 :: List.replicate 18 none) own h)
    (k : ∀ HA hits hn g' h' t', t ≤ t' → Keep g g' → g'.get? HA = some (lst hits hn) → StrsAre hits.toList ((ordersU ys).map (hungU 5)) → St g' L (lc 21) (V5 D c tc ou to x tx NA ++ v5 :: v6 :: some (.ref HA) :: List.replicate 17 none) own h' →
      wpAny (model pg w) A (execs (tl 8) (envOfC (nm 21) (sc 21) L a cd)) Q (fun _ _ => False) ⟨h', gn, d, t', os⟩) :
    wpAny (model pg w) A (execs (tl 7) (envOfC (nm 21) (sc 21) L a cd)) Q (fun _ _ => False) ⟨h, gn, d, t, os⟩ := by
  have hNl : ∀ {h'}, Keep g h' → h'.IsList NA nits := fun hk => isList_of (hk _ _ hN)
  refine wpAny_execs_cons (wpAny_with_toks (n := t) (Nat.le_refl _) ?_)
  refine comp1 (cl := []) (sco := sc 21) S (by rfl) (by rfl) (by decide) (by rfl) (by decide) (by rfl) v21_hung ?_
  refine Call_ (r_fn S M.base g21__law_orders (by decide) ?_)
  refine call_fn M.base (by decide) (acons (r_loc S v21_names rfl (anil ⟨S.keep, wpAny_call ?_⟩)))
  refine orders_spec (M.base.keeps S.keep) hA (by lia) (hNl S.keep) hys (by lia) fun h₂ t₂ PA items nn ex hk₂ hobj hO => ?_
  have hPA := hobj (PA, lst items nn) (.head _)
  have hol := orders_len ys ys.length (by lia) (Nat.le_refl _)
  rw [List.take_length] at hol
  have hln : items.size = (ordersU ys).length := by have := hO.len; simpa using this
  have h5 : 5 ^ ys.length ≤ 625 := Nat.pow_le_pow_right (n := 5) (by lia) (by lia : ys.length ≤ 4)
  refine wpAny_pyIter_list (s := ⟨h₂, gn, d, t₂, os⟩) (isList_of hPA) ?_
  have hlt : PA < h₂.objs.size := Heap.lt_size hPA
  have hkp : Keep h₂ (h₂.push { cls := .type "list_iterator", data := .fields #[.ref PA, .int 0 0] }) := fun b o e => Heap.get?_push_of_some _ e
  refine ⟨HungF ex, _, _, h₂.objs.size, _, _, _, _, rfl, rfl, Walks.list (prog := pg) (w := w) hA h₂.objs.size PA (Nat.ne_of_lt hlt) items, le_line (by lia), ⟨⟨_, Heap.get?_push_size _ rfl, rfl, rfl⟩, (isList_of hPA).push _⟩, ?_, fun b o e => hkp b o (hk₂ b o e), ?_, ?_, ?_⟩
  · intro b hb
    have hb' : b = h₂.objs.size ∨ b = PA := by simpa using hb
    rw [Heap.size_push]
    rcases hb' with rfl | rfl
    · exact Nat.lt_succ_self _
    · exact Nat.lt_succ_of_lt hlt
  · cases hq : h.get? h₂.objs.size with
    | none => rfl
    | some o => exact absurd (Heap.lt_size (hk₂ _ _ hq)) (Nat.lt_irrefl _)
  · intro C i v s₃ m₃ E' hP hn hv hk₃ hk₄
    obtain ⟨qa, its, n1, q, rfl, hm, hq, hqk⟩ := hO.at (v := v) (by simpa using hP)
    have hkg : Keep g s₃.heap := fun b o e => hk₃ b o (S.keep b o e)
    have hqa : s₃.heap.get? qa = some (lst its n1) := hk₄ _ _ (Nat.ne_of_lt (Heap.lt_size (hobj (qa, lst its n1) (.tail _ hm)))) (hkp _ _ (hobj (qa, lst its n1) (.tail _ hm)))
    obtain ⟨h₃, gn₃, d₃, t₃, os₃⟩ := s₃
    have hql := hol.2 q (List.mem_of_getElem? hqk)
    refine Call_ (rw_fn hkg M.base (by rfl) g21__law_hungX (by decide) ?_)
    refine call_fn M.base (by decide) (acons (rw_loc hn hv (anil ⟨hkg, wpAny_call ?_⟩)))
    refine hung_spec 5 (M.base.keeps hkg) hA (by lia) (by lia) (isList_of hqa) hq (by lia) (by lia) fun h₄ t₄ tk hk₅ => ⟨?_, h₄, t₄, rfl, hk₅⟩
    intro a' its' n' os' e1 e2 e3
    cases e1
    have e4 : its' = its := by
      have := (hobj (qa, lst its' n') (.tail _ e2)).symm.trans (hobj (qa, lst its n1) (.tail _ hm))
      injection this with this
      injection this with _ _ this _
      injection this
    subst e4
    rw [strs_uniq e3 hq]
    exact ⟨tk, rfl⟩
  · intro HA hits hn vs h' t' hlen hP hF hD S' ht
    have hvs : vs = items.toList := by
      apply List.ext_getElem?
      intro j
      by_cases hj : j < vs.length
      · have := hP j vs[j] (List.getElem?_eq_getElem hj)
        rw [List.getElem?_eq_getElem hj, Array.getElem?_toList, this]
      · rw [List.getElem?_eq_none (by lia), List.getElem?_eq_none (by rw [Array.length_toList]; lia)]
    subst hvs
    have hh := paired_hung hO hF
    obtain ⟨g', hg', hH', S''⟩ := St.freeze (ex := [(HA, lst hits hn)]) S'
    exact k HA hits hn g' h' t' ht hg' (hH' _ (.head _)) hh S''
end
end Mine
end
-- part M37
section
set_option maxRecDepth 100000
set_option linter.unusedVariables false
set_option maxHeartbeats 4000000
namespace Mine
open PyProof PySem PySem.Calls PyProof.Rows PySem.W PySem.W.X

noncomputable def facU (c : Nat) (x : Int) (i : Nat) : Int := ((c : Int) + 1 + (i : Int)) * x + (c : Int) + 1 - (i : Int)
noncomputable def wholeU (c : Nat) (x : Int) : Nat → Int
  | 0 => 1
  | i + 1 => wholeU c x i * facU c x i
noncomputable def everyU : Nat → Int
  | 0 => 1
  | i + 1 => everyU i * ((i : Int) + 1)
noncomputable def oddU : Nat → Int
  | 0 => 1
  | i + 1 => oddU i * (2 * (i : Int) + 1)
theorem fac_bits {c : Nat} {x : Int} {i : Nat} (hc : c ≤ 4) (hx : x.natAbs ≤ 10 ^ 60 + 2) (hi : i ≤ 4) : Builtin.Int.intBits (facU c x i) ≤ 210 := by
  have h1 : Builtin.Int.intBits ((c : Int) + 1 + (i : Int)) ≤ 4 := PyProof.Rows.intBits_le (by lia)
  have h2 : Builtin.Int.intBits x ≤ 200 := PyProof.Rows.intBits_le (Nat.lt_of_le_of_lt hx (by decide +kernel))
  have h3 := PySem.intBits_mul_le h1 h2
  have h4 : Builtin.Int.intBits ((c : Int) + 1 - (i : Int)) ≤ 4 := PyProof.Rows.intBits_le (by lia)
  have h5 := PySem.intBits_add_le h3 h4
  have e : facU c x i = ((c : Int) + 1 + (i : Int)) * x + ((c : Int) + 1 - (i : Int)) := by unfold facU; lia
  rw [e]
  exact Nat.le_trans h5 (by decide)
theorem whole_bits {c : Nat} {x : Int} (hc : c ≤ 4) (hx : x.natAbs ≤ 10 ^ 60 + 2) : ∀ i, i ≤ 5 → Builtin.Int.intBits (wholeU c x i) ≤ 210 * i + 1 := by
  intro i
  induction i with
  | zero => intro _; exact PyProof.Rows.intBits_le (a := 1) (k := 1) (by decide)
  | succ i ih =>
    intro hi
    have h1 := PySem.intBits_mul_le (ih (by lia)) (fac_bits hc hx (i := i) (by lia))
    exact Nat.le_trans h1 (by lia)

section
variable {w : World} {A : Around} {E : Value → Shared → Prop} {h h' : Heap} {gn : Array GenState} {d : Drawn} {t : Nat} {os : OsState} {g : Heap} {L a : Addr} {i : Nat} {vals : List (Option Value)} {own : List (Addr × Obj)}
  {fa : Nat → Addr} {mg mb : Str → Option Value} {n : Str} {cd : Value} {pos : Pos} {sco : Scope} {env : Env} {ns : List Str} {c8 P8 c9 P9 : Addr} {τ8 τ9 rest : List (Addr × Obj)}
theorem law_whole {Q : Flow → Shared → Prop} {D NA HA : Addr} {c ou : Nat} {x : Int} {tc to tx : Tok} {v5 v6 : Option Value} (M : DM fa mg mb g c8 P8 c9 P9) (hA : A.handled = none)
    (hc : c = 3 ∨ c = 4) (hx : x.natAbs ≤ 10 ^ 60 + 2)
    (S : St g L (lc 21) (V5 D c tc ou to x tx NA ++ v5 :: v6 :: some (.ref HA) :: List.replicate 17 none) own h)
    (k : ∀ v5 v6 t8 t9 t10 t11 t12 h' t', t ≤ t' → St g L (lc 21) (V5 D c tc ou to x tx NA ++ v5 :: v6 :: some (.ref HA) :: some (.int (wholeU c x c) t8) :: some (.int (everyU c) t9) :: some (.int (oddU c) t10) :: some (.int 0 t11) :: some (.int 0 t12) :: List.replicate 12 none) own h' →
      wpAny (model pg w) A (execs (tl 14) (envOfC (nm 21) (sc 21) L a cd)) Q (fun _ _ => False) ⟨h', gn, d, t', os⟩) :
    wpAny (model pg w) A (execs (tl 8) (envOfC (nm 21) (sc 21) L a cd)) Q (fun _ _ => False) ⟨h, gn, d, t, os⟩ := by
  have hle := Nat.le_refl t
  refine wpAny_execs_cons (wpAny_with_toks (n := t) hle (wpAny_Assign_Name (c_int fun t₂ => r_st S v21_whole fun h₂ t₃ S₂ _ ht₃ => ?_)))
  refine wpAny_execs_cons (wpAny_with_toks (n := t) ht₃ (wpAny_Assign_Name (c_int fun t₄ => r_st S₂ v21_every fun h₃ t₅ S₃ _ ht₅ => ?_)))
  refine wpAny_execs_cons (wpAny_with_toks (n := t) ht₅ (wpAny_Assign_Name (c_int fun t₆ => r_st S₃ v21_odd fun h₄ t₇ S₄ _ ht₇ => ?_)))
  refine wpAny_execs_cons (wpAny_with_toks (n := t) ht₇ (wpAny_For (Call_ (r_bt S₄ M.base g21_range b_range (cw_type (acons (r_loc S₄ v21_count rfl (anil ?_))))))))
  refine o_range1 fun h₅ r u v t₈ hk₅ hz₅ hr₅ hR => ?_
  have hrs : Builtin.Range.rangeSize 0 (c : Int) 1 = (c : Int) := by rw [rangeSize_nat]; lia
  refine for_range2 hA (S₄.keeps hk₅) hR (small_one (by lia) (by lia) (by lia) (by lia)) hrs v21_i (fun i vals own' => own' = own ∧ ∃ v5 v6 t8 t9 t10, vals = V5 D c tc ou to x tx NA ++ v5 :: v6 :: some (.ref HA) :: some (.int (wholeU c x i) t8) :: some (.int (everyU i) t9) :: some (.int (oddU i) t10) :: List.replicate 14 none) ?_ ?_ ⟨rfl, _, _, _, _, _, rfl⟩
  · intro i tk vals own' g₂ h₆ t₉ gn₁ hi hle hpat10 hg₂ heq12 S₆
    refine abs_q fun Q1 hQ1 => ?_
    obtain ⟨rfl, v5, v6, t8, t9, t10, rfl⟩ := hpat10
    subst heq12
    have ei : (0 + (i : Int) * 1) = ((i : Nat) : Int) := by lia
    rw [ei] at S₆
    have hw := whole_bits (c := c) (x := x) (by lia) hx i (by lia)
    have hf := fac_bits (c := c) (x := x) (i := i) (by lia) hx (by lia)
    have hev : Builtin.Int.intBits ((i : Int) + 1) ≤ 64 := PySem.intBits_le_64 (by lia) (by lia)
    have hod : Builtin.Int.intBits (2 * (i : Int) + 1) ≤ 64 := PySem.intBits_le_64 (by lia) (by lia)
    have hcc : Builtin.Int.intBits ((c : Int) + 1 + (i : Int)) ≤ 64 := PySem.intBits_le_64 (by lia) (by lia)
    refine wpAny_execs_cons (wpAny_AugAssign_Name (r_ldn S₆ v21_whole rfl ?_))
    refine wpAny_BinOp (wpAny_BinOp (wpAny_BinOp (wpAny_BinOp (wpAny_BinOp (wpAny_BinOp ?_)))))
    refine r_loc S₆ v21_count rfl (c_int fun t₁₁ => o_add fun u₁ t₁₂ => r_loc S₆ v21_i rfl (o_add fun u₂ t₁₃ => r_loc S₆ v21_x rfl (o_mul (.of_left hcc) fun u₃ t₁₄ => ?_)))
    refine r_loc S₆ v21_count rfl (o_add fun u₄ t₁₅ => c_int fun t₁₆ => o_add fun u₅ t₁₇ => r_loc S₆ v21_i rfl (o_sub fun u₆ t₁₈ => ?_))
    refine o_imul (.of_bits (Nat.le_trans hw (by lia)) (Nat.le_trans hf (by lia))) fun u₇ t₁₉ => ?_
    refine r_st S₆ v21_whole fun h₇ t₂₀ S₇ _ => ?_
    refine wpAny_execs_cons (wpAny_AugAssign_Name (r_ldn S₇ v21_every rfl ?_))
    refine wpAny_BinOp (r_loc S₇ v21_i rfl (c_int fun t₂₁ => o_add fun u₈ t₂₂ => o_imul (.of_right hev) fun u₉ t₂₃ => ?_))
    refine r_st S₇ v21_every fun h₈ t₂₄ S₈ _ => ?_
    refine wpAny_execs_cons (wpAny_AugAssign_Name (r_ldn S₈ v21_odd rfl ?_))
    refine wpAny_BinOp (wpAny_BinOp (c_int fun t₂₅ => r_loc S₈ v21_i rfl (o_mul (.of_left (by decide)) fun u₁₀ t₂₆ => c_int fun t₂₇ => o_add fun u₁₁ t₂₈ => ?_)))
    refine o_imul (.of_right hod) fun u₁₂ t₂₉ => ?_
    refine r_st S₈ v21_odd fun h₉ t₃₀ S₉ _ => ?_
    repeat refine wpAny_execs_nil ?_
    exact hQ1 _ _ (.inl ⟨rfl, _, _, _, _, _, rfl, rfl, S₉, rfl, _, _, _, _, _, rfl⟩)
  · rintro vals own' h₆ t₉ gn₁ ⟨rfl, v5, v6, t8, t9, t10, rfl⟩ hle rfl S₆ ht
    refine wpAny_execs_cons (wpAny_with_toks (n := t) ht (wpAny_Assign_Name (c_int fun t₁₁ => r_st S₆ v21_total fun h₇ t₁₂ S₇ _ ht₁₂ => ?_)))
    refine wpAny_execs_cons (wpAny_with_toks (n := t) ht₁₂ (wpAny_Assign_Name (c_int fun t₁₃ => r_st S₇ v21_grown fun h₈ t₁₄ S₈ _ ht₁₄ => ?_)))
    exact k _ _ _ _ _ _ _ h₈ t₁₄ ht₁₄ S₈
end
end Mine
end
-- part N0
section
set_option maxRecDepth 100000
set_option linter.unusedVariables false
set_option maxHeartbeats 4000000
namespace Mine
open PyProof PySem PySem.Calls PyProof.Rows PySem.W PySem.W.X

/-- the count of brackets over plain signs -/
noncomputable def bal : Int → List Nat → Bool
  | o, [] => o == 0
  | o, c :: r => if c = 40 then bal (o + 1) r else if c = 41 then (if o - 1 < 0 then false else bal (o - 1) r) else bal o r
noncomputable def Plain (l : List Nat) : Prop := ∀ c ∈ l, c = 40 ∨ c = 41
noncomputable def putL (z : List Nat) (k : Nat) : List Nat := if k = 40 then z else [k]
theorem flat_free (z : List Nat) : ∀ l : List Nat, 40 ∉ l → l.flatMap (putL z) = l := by
  intro l
  induction l with
  | nil => intro _; rfl
  | cons k r ih =>
    intro h
    have h1 : k ≠ 40 := fun e => h (e ▸ List.mem_cons_self ..)
    rw [List.flatMap_cons, ih fun m => h (List.mem_cons_of_mem _ m)]
    unfold putL
    rw [if_neg h1]; rfl
theorem join_two (z p q : Str) (r : List Str) : (Str.join z (p :: q :: r)).cps.toList = p.cps.toList ++ (z.cps.toList ++ (Str.join z (q :: r)).cps.toList) := by
  have e : Str.join z (p :: q :: r) = p ++ z ++ Str.join z (q :: r) := rfl
  rw [e]
  simp only [Str.cps_append, Array.toList_append, List.append_assoc]
theorem flat_join (z : Str) {parts : List Str} (h : ∀ p ∈ parts, 40 ∉ p.cps.toList) : (Str.join ⟨#[40]⟩ parts).cps.toList.flatMap (putL z.cps.toList) = (Str.join z parts).cps.toList := by
  induction parts with
  | nil => rfl
  | cons p r ih =>
    have own := flat_free z.cps.toList _ (h p (by simp))
    have rest := ih fun a ha => h a (by simp [ha])
    cases r with
    | nil => exact own
    | cons q r => rw [join_two, join_two, List.flatMap_append, List.flatMap_append, own, rest]; simp [putL]
theorem repl_list (x z : Str) : (Txt.replace x "(" z).cps.toList = x.cps.toList.flatMap (putL z.cps.toList) := by
  show (Txt.replace x ⟨#[40]⟩ z).cps.toList = _
  rw [StrLaws.replace_one, ← flat_join z (StrLaws.split_free x 40), StrLaws.join_split]
/-- the signs of the openings -/
noncomputable def opL : Nat → List Nat
  | 0 => [40]
  | 1 => [92, 41, 40]
  | 2 => [34, 41, 34, 40]
  | _ => [92, 92, 40]
theorem opL_eq : ∀ ou, ou < 4 → (opU ou).cps.toList = opL ou := by
  intro ou h
  match ou, h with
  | 0, _ => rfl
  | 1, _ => rfl
  | 2, _ => rfl
  | 3, _ => rfl
theorem chk_plain : ∀ (l : List Nat) (o : Int) (k : Nat), Plain l → chk o (iterE k false l) = bal o l := by
  intro l
  induction l with
  | nil => intro o k _; rfl
  | cons c r ih =>
    intro o k h
    have hr : Plain r := fun x hx => h x (.tail _ hx)
    rcases h c (.head _) with rfl | rfl
    · show chk (o + 1) (iterE (k + 1) false r) = bal (o + 1) r
      exact ih _ _ hr
    · show (if o - 1 < 0 then false else chk (o - 1) (iterE (k + 1) false r)) = (if o - 1 < 0 then false else bal (o - 1) r)
      rw [ih _ _ hr]
theorem chk_dress (ou : Nat) (hou : ou < 4) (h2 : ou ≠ 2) : ∀ (l : List Nat) (o : Int) (k : Nat), Plain l → chk o (iterE k false (l.flatMap (putL (opL ou)))) = bal o l := by
  intro l
  induction l with
  | nil => intro o k _; rfl
  | cons c r ih =>
    intro o k h
    have hr : Plain r := fun x hx => h x (.tail _ hx)
    rcases h c (.head _) with rfl | rfl
    · match ou, hou, h2 with
      | 0, _, _ => exact ih (o + 1) (k + 1) hr
      | 1, _, _ => exact ih (o + 1) (k + 3) hr
      | 3, _, _ => exact ih (o + 1) (k + 3) hr
    · show (if o - 1 < 0 then false else chk (o - 1) (iterE (k + 1) false (r.flatMap (putL (opL ou))))) = (if o - 1 < 0 then false else bal (o - 1) r)
      rw [ih _ _ hr]
theorem slice_ll {x : Str} {s e : Nat} (h : s ≤ e) (he : e ≤ x.cps.toList.length) : (Txt.slice x (some (s : Int)) (some (e : Int))).cps.toList = (x.cps.toList.drop s).take (e - s) := by
  have h1 := eq_of_beq (slice_closes (x := x) (i := (s : Int)) (j := (e : Int)) ⟨by lia, by lia, by lia⟩)
  rw [h1]
  show (x.cps.toList.drop s).take ((e : Int) - (s : Int)).toNat = _
  rw [show ((e : Int) - (s : Int)).toNat = e - s by lia]
theorem slice_lf {x : Str} {s : Nat} (h : s ≤ x.cps.toList.length) : (Txt.slice x (some (s : Int)) none).cps.toList = x.cps.toList.drop s := by
  have h1 := eq_of_beq (slice_closes_fromL (x := x) (i := (s : Int)) (b := (x.length : Int)) (by lia) (by rw [Array.length_toList] at h; show (s : Int) ≤ (x.cps.size : Int); lia) rfl)
  rw [h1]
  show (x.cps.toList.drop s).take ((x.length : Int) - (s : Int)).toNat = _
  refine List.take_of_length_le ?_
  rw [List.length_drop, Array.length_toList]
  show _ ≤ ((x.cps.size : Int) - (s : Int)).toNat
  lia
theorem join_snoc (res : List Str) (y : Str) : (Txt.join "" (res ++ [y])).cps.toList = (Txt.join "" res).cps.toList ++ y.cps.toList := by
  show (Builtin.Str.glued ⟨#[]⟩ (res ++ [y])).cps.toList = (Builtin.Str.glued ⟨#[]⟩ res).cps.toList ++ _
  rw [StrLaws.glued_eq_join, StrLaws.glued_eq_join]
  induction res with
  | nil => rfl
  | cons a r ih =>
    cases r with
    | nil =>
      show (a ++ ⟨#[]⟩ ++ y).cps.toList = a.cps.toList ++ y.cps.toList
      simp [Str.cps_append]
    | cons b r =>
      show (a ++ ⟨#[]⟩ ++ Str.join ⟨#[]⟩ ((b :: r) ++ [y])).cps.toList = (a ++ ⟨#[]⟩ ++ Str.join ⟨#[]⟩ (b :: r)).cps.toList ++ _
      simp only [Str.cps_append, Array.toList_append] at ih ⊢
      rw [ih]
      simp
/-- what stands kept, with what is still to come -/
noncomputable def kept (x : Str) (y : Int × List Str) : List Nat := (Txt.join "" y.2).cps.toList ++ x.cps.toList.drop y.1.toNat
theorem stp_quoted (x : Str) : ∀ (rest P : List Nat) (s : Nat) (res : List Str), Plain rest → x.cps.toList = P ++ rest.flatMap (putL (opL 2)) → s ≤ P.length →
    0 ≤ (stp x (s : Int) none res (iterE P.length false (rest.flatMap (putL (opL 2))))).1 ∧ (stp x (s : Int) none res (iterE P.length false (rest.flatMap (putL (opL 2))))).1 ≤ (x.cps.toList.length : Int) ∧
    kept x (stp x (s : Int) none res (iterE P.length false (rest.flatMap (putL (opL 2))))) = (Txt.join "" res).cps.toList ++ (x.cps.toList.drop s).take (P.length - s) ++ rest := by
  intro rest
  induction rest with
  | nil =>
    intro P s res _ hx hs
    have hx' : x.cps.toList = P := by simpa using hx
    show 0 ≤ (s : Int) ∧ (s : Int) ≤ _ ∧ kept x ((s : Int), res) = _
    refine ⟨by lia, by rw [hx']; lia, ?_⟩
    unfold kept
    rw [hx', List.append_nil, List.take_of_length_le (by rw [List.length_drop]; lia)]
    rfl
  | cons c r ih =>
    intro P s res h hx hs
    have hr : Plain r := fun y hy => h y (.tail _ hy)
    rcases h c (.head _) with rfl | rfl
    · have hx2 : x.cps.toList = (P ++ [34, 41, 34, 40]) ++ r.flatMap (putL (opL 2)) := by rw [hx]; simp [putL, opL]
      have hlen : P.length ≤ x.cps.toList.length := by rw [hx, List.length_append]; lia
      have key := ih (P ++ [34, 41, 34, 40]) (P.length + 3) (if (s : Int) != (P.length : Int) then res ++ [Txt.slice x (some (s : Int)) (some (P.length : Int))] else res) hr hx2 (by simp)
      have e : stp x (s : Int) none res (iterE P.length false ((40 :: r).flatMap (putL (opL 2)))) =
          stp x ((P.length + 3 : Nat) : Int) none (if (s : Int) != (P.length : Int) then res ++ [Txt.slice x (some (s : Int)) (some (P.length : Int))] else res) (iterE (P ++ [34, 41, 34, 40]).length false (r.flatMap (putL (opL 2)))) := by
        rw [List.length_append]
        rfl
      rw [e]
      refine ⟨key.1, key.2.1, key.2.2.trans ?_⟩
      have e1 : (Txt.join "" (if (s : Int) != (P.length : Int) then res ++ [Txt.slice x (some (s : Int)) (some (P.length : Int))] else res)).cps.toList = (Txt.join "" res).cps.toList ++ (x.cps.toList.drop s).take (P.length - s) := by
        by_cases hsp : s = P.length
        · subst hsp
          simp
        · have hb : ((s : Int) != (P.length : Int)) = true := by simp; lia
          rw [if_pos hb, join_snoc, slice_ll hs hlen]
      have e2 : (x.cps.toList.drop (P.length + 3)).take ((P ++ [34, 41, 34, 40]).length - (P.length + 3)) = [40] := by
        rw [hx, List.drop_append, List.length_append, List.drop_eq_nil_of_le (by lia)]
        simp [putL, opL]
      rw [e1, e2]
      simp
    · have hx2 : x.cps.toList = (P ++ [41]) ++ r.flatMap (putL (opL 2)) := by rw [hx]; simp [putL]
      have key := ih (P ++ [41]) s res hr hx2 (by rw [List.length_append]; lia)
      have e : stp x (s : Int) none res (iterE P.length false ((41 :: r).flatMap (putL (opL 2)))) = stp x (s : Int) none res (iterE (P ++ [41]).length false (r.flatMap (putL (opL 2)))) := by
        rw [List.length_append]
        rfl
      rw [e]
      refine ⟨key.1, key.2.1, key.2.2.trans ?_⟩
      have e2 : (x.cps.toList.drop s).take ((P ++ [41]).length - s) = (x.cps.toList.drop s).take (P.length - s) ++ [41] := by
        rw [List.length_append, show P.length + [41].length - s = (P.length - s) + 1 by simp; lia, List.take_add_one, List.getElem?_drop, show s + (P.length - s) = P.length by lia, hx]
        simp [putL]
      rw [e2]
      simp
theorem no_sign (ou : Nat) (hou : ou < 4) (h2 : ou ≠ 2) (l : List Nat) (h : Plain l) : 34 ∉ l.flatMap (putL (opL ou)) := by
  intro hm
  obtain ⟨c, hc, hm⟩ := List.mem_flatMap.mp hm
  rcases h c hc with rfl | rfl
  · match ou, hou, h2 with
    | 0, _, _ => revert hm; decide
    | 1, _, _ => revert hm; decide
    | 3, _, _ => revert hm; decide
  · revert hm; simp [putL]
theorem contains_sign (x : Str) : Txt.contains x "\"" = decide (34 ∈ x.cps.toList) := StrLaws.found_one x 34
/-- the whole of _check_parenthesis over dressed rows -/
theorem checkP_dress {ou : Nat} (hou : ou < 4) (r : Str) (h : Plain r.cps.toList) : checkP (Txt.replace r "(" (opU ou)) = bal 0 r.cps.toList := by
  have hx : (Txt.replace r "(" (opU ou)).cps.toList = r.cps.toList.flatMap (putL (opL ou)) := by rw [repl_list, opL_eq ou hou]
  unfold checkP strip
  rw [contains_sign]
  by_cases h2 : ou = 2
  · subst h2
    by_cases hm : 34 ∈ (Txt.replace r "(" (opU 2)).cps.toList
    · rw [if_pos (decide_eq_true hm)]
      have key := stp_quoted (Txt.replace r "(" (opU 2)) r.cps.toList [] 0 [] h (by simpa using hx) (Nat.le_refl _)
      rw [hx]
      generalize hy : stp (Txt.replace r "(" (opU 2)) 0 none [] (iterE 0 false (r.cps.toList.flatMap (putL (opL 2)))) = y
      have key' : 0 ≤ y.1 ∧ y.1 ≤ ((Txt.replace r "(" (opU 2)).cps.toList.length : Int) ∧ kept (Txt.replace r "(" (opU 2)) y = r.cps.toList := by
        have e : stp (Txt.replace r "(" (opU 2)) ((0 : Nat) : Int) none [] (iterE ([] : List Nat).length false (r.cps.toList.flatMap (putL (opL 2)))) = y := hy
        rw [e] at key
        refine ⟨key.1, key.2.1, key.2.2.trans ?_⟩
        show (Txt.join "" []).cps.toList ++ _ ++ _ = _
        have : (Txt.join "" []).cps.toList = [] := rfl
        rw [this]; simp
      obtain ⟨k1, k2, k3⟩ := key'
      obtain ⟨p, res⟩ := y
      obtain ⟨n, rfl⟩ := Int.eq_ofNat_of_zero_le k1
      have e : (Txt.join "" (if ((n : Int), res).1 < ((Txt.replace r "(" (opU 2)).length : Int) then ((n : Int), res).2 ++ [Txt.slice (Txt.replace r "(" (opU 2)) (some ((n : Int), res).1) none] else ((n : Int), res).2)).cps.toList = r.cps.toList := by
        have k2' : n ≤ (Txt.replace r "(" (opU 2)).cps.toList.length := by simpa using k2
        rw [← k3]
        unfold kept
        by_cases hlt : (n : Int) < ((Txt.replace r "(" (opU 2)).length : Int)
        · rw [if_pos hlt, join_snoc, slice_lf k2']
          rfl
        · rw [if_neg hlt]
          have hn : (Txt.replace r "(" (opU 2)).cps.toList.length ≤ n := by
            rw [Array.length_toList]
            have : ¬ (n : Int) < ((Txt.replace r "(" (opU 2)).cps.size : Int) := hlt
            lia
          show _ = _ ++ List.drop n _
          rw [List.drop_eq_nil_of_le hn, List.append_nil]
      rw [e]
      exact chk_plain _ _ _ h
    · rw [if_neg (by simpa using hm), hx]
      have hno : 40 ∉ r.cps.toList := fun hc => hm (by rw [hx]; exact List.mem_flatMap.mpr ⟨40, hc, by simp [putL, opL]⟩)
      rw [flat_free _ _ hno]
      exact chk_plain _ _ _ h
  · have hm : 34 ∉ (Txt.replace r "(" (opU ou)).cps.toList := by rw [hx]; exact no_sign ou hou h2 _ h
    rw [if_neg (by simpa using hm), hx]
    exact chk_dress ou hou h2 _ _ _ h
end Mine
end
-- part N1
section
set_option maxRecDepth 100000
set_option linter.unusedVariables false
set_option maxHeartbeats 4000000
namespace Mine
open PyProof PySem PySem.Calls PyProof.Rows PySem.W PySem.W.X

noncomputable def hsU (c : Nat) : List Str := (ordersU (Nc c)).map (hungU 5)
noncomputable def mAt (len : Nat) (at_ : Nat) : Nat := (Builtin.Range.rangeSize ((at_ : Int) + 2) ((len : Int) + 1) 2).toNat
noncomputable def prs (op r : Str) (at_ : Nat) : List Int := pairsU r op (at_ : Int) (mAt r.length at_)
noncomputable def isOpen (r : Str) (k : Nat) : Bool := r.cps[k]?.getD 0 == 40
/-- longest, shortest -/
noncomputable def lsU (op r : Str) : Nat → Int × Int
  | 0 => (1, 1)
  | k + 1 => if isOpen r k then ((lsU op r k).1 * (prs op r k).getLastD 0, (lsU op r k).2 * (prs op r k).headD 0) else lsU op r k
noncomputable def wtU (op r : Str) (x : Int) : Nat → Int
  | 0 => 1
  | k + 1 => if isOpen r k then wtU op r x k * (x * (prs op r k).getLastD 0 + 1) else wtU op r x k
noncomputable def rowOk (c ou : Nat) (r : Str) : Bool :=
  r.length == 2 * c && (checkP (Txt.replace r "(" (opU ou)) == (hsU c).contains r) && decide ((Txt.replace r "(" (opU ou)).length ≤ 1000) &&
  (!(hsU c).contains r || ((List.range (2 * c)).all (fun k => !isOpen r k || (decide (prs (opU ou) r k ≠ []) && (prs (opU ou) r k).all (fun p => decide (1 ≤ p ∧ p ≤ 8)) &&
      (List.range (mAt (2 * c) k)).all (fun j => decide ((piece r (opU ou) (k : Int) ((k : Int) + 2 + (j : Int) * 2)).length ≤ 1000)))) &&
    decide ((lsU (opU ou) r (2 * c)).1 ≠ 0) && decide ((lsU (opU ou) r (2 * c)).2 ≠ 0) && decide ((lsU (opU ou) r (2 * c)).1.natAbs ≤ 100000) && decide ((lsU (opU ou) r (2 * c)).2.natAbs ≤ 100000) &&
    decide ((everyU c).fdiv (lsU (opU ou) r (2 * c)).1 = ((hsU c).count r : Nat)) && decide ((everyU c).fmod (lsU (opU ou) r (2 * c)).1 = 0) && decide ((everyU c).fmod (lsU (opU ou) r (2 * c)).2 = 0)))
noncomputable def rowsOf (c : Nat) : List Str := rowsU (c : Int) (2 * c - 1)
/-- the same without an opening, over the signs -/
noncomputable def balPairs (r : Str) (k : Nat) : Nat → List Int
  | 0 => []
  | j + 1 => if bal 0 (Txt.slice r (some (k : Int)) (some ((k : Int) + 2 + (j : Int) * 2))).cps.toList then balPairs r k j ++ [(((k : Int) + 2 + (j : Int) * 2) - (k : Int)).fdiv 2] else balPairs r k j
noncomputable def prsB (r : Str) (k : Nat) : List Int := balPairs r k (mAt r.length k)
noncomputable def lsB (r : Str) : Nat → Int × Int
  | 0 => (1, 1)
  | k + 1 => if isOpen r k then ((lsB r k).1 * (prsB r k).getLastD 0, (lsB r k).2 * (prsB r k).headD 0) else lsB r k
theorem plain_slice {r : Str} {l u : Option Int} (h : Plain r.cps.toList) : Plain (Txt.slice r l u).cps.toList := fun c hc => by
  unfold Txt.slice at hc
  split at hc
  · exact h c hc
  · obtain ⟨i, _, hi⟩ := List.mem_filterMap.mp (by simpa using hc)
    exact h c (by simpa using Array.mem_of_getElem? hi)
theorem prs_eq {ou : Nat} (hou : ou < 4) {r : Str} (h : Plain r.cps.toList) (k : Nat) : prs (opU ou) r k = prsB r k := by
  unfold prs prsB
  generalize mAt r.length k = m
  induction m with
  | zero => rfl
  | succ j ih =>
    unfold pairsU balPairs
    rw [ih]
    unfold piece
    rw [checkP_dress hou _ (plain_slice h)]
theorem ls_eq {ou : Nat} (hou : ou < 4) {r : Str} (h : Plain r.cps.toList) : ∀ n, lsU (opU ou) r n = lsB r n := by
  intro n
  induction n with
  | zero => rfl
  | succ n ih =>
    unfold lsU lsB
    rw [ih, prs_eq hou h]
theorem dress_len {ou : Nat} (hou : ou < 4) : ∀ l : List Nat, (l.flatMap (putL (opL ou))).length ≤ 4 * l.length := by
  intro l
  induction l with
  | nil => exact Nat.le_refl _
  | cons c r ih =>
    rw [List.flatMap_cons, List.length_append, List.length_cons]
    have h1 : (putL (opL ou) c).length ≤ 4 := by
      unfold putL
      split
      · match ou, hou with
        | 0, _ => decide
        | 1, _ => decide
        | 2, _ => decide
        | 3, _ => decide
      · simp
    lia
theorem repl_len {ou : Nat} (hou : ou < 4) (r : Str) : (Txt.replace r "(" (opU ou)).length ≤ 4 * r.length := by
  have h := dress_len hou r.cps.toList
  rw [← opL_eq ou hou, ← repl_list, Array.length_toList, Array.length_toList] at h
  exact h
/-- one row, without an opening, the hung rows handed in -/
noncomputable def rowB (c : Nat) (hs : List Str) (r : Str) : Bool :=
  r.length == 2 * c && (r.cps.toList.all fun x => x == 40 || x == 41) && (bal 0 r.cps.toList == hs.contains r) &&
  (!hs.contains r || ((List.range (2 * c)).all (fun k => !isOpen r k || ((prsB r k).length != 0 && (prsB r k).all fun p => decide (1 ≤ p ∧ p ≤ 8))) &&
    decide ((lsB r (2 * c)).1 ≠ 0) && decide ((lsB r (2 * c)).2 ≠ 0) && decide ((lsB r (2 * c)).1.natAbs ≤ 100000) && decide ((lsB r (2 * c)).2.natAbs ≤ 100000) &&
    decide ((everyU c).fdiv (lsB r (2 * c)).1 = (hs.count r : Nat)) && decide ((everyU c).fmod (lsB r (2 * c)).1 = 0) && decide ((everyU c).fmod (lsB r (2 * c)).2 = 0)))
theorem rowOk_of {c ou : Nat} {r : Str} (hc : c ≤ 4) (hou : ou < 4) (h : rowB c (hsU c) r = true) : rowOk c ou r = true := by
  unfold rowB at h
  rw [Bool.and_eq_true, Bool.and_eq_true, Bool.and_eq_true, beq_iff_eq, beq_iff_eq] at h
  obtain ⟨⟨⟨h1, hp⟩, h2⟩, h4⟩ := h
  have hP : Plain r.cps.toList := fun x hx => by
    have := List.all_eq_true.mp hp x hx
    simpa using this
  have hl : (Txt.replace r "(" (opU ou)).length ≤ 1000 := by have := repl_len hou r; lia
  unfold rowOk
  rw [checkP_dress hou r hP, ls_eq hou hP, h2, decide_eq_true hl]
  have e1 : (r.length == 2 * c) = true := by simpa using h1
  rw [e1, beq_self_eq_true, Bool.and_true, Bool.true_and]
  cases hh : (hsU c).contains r with
  | false => rfl
  | true =>
    rw [hh] at h4
    simp only [Bool.not_true, Bool.false_or, Bool.true_and, Bool.and_eq_true] at h4 ⊢
    obtain ⟨⟨⟨⟨⟨⟨⟨h5, h6⟩, h7⟩, h8⟩, h9⟩, h10⟩, h11⟩, h12⟩ := h4
    refine ⟨⟨⟨⟨⟨⟨⟨List.all_eq_true.mpr fun k hk => ?_, h6⟩, h7⟩, h8⟩, h9⟩, h10⟩, h11⟩, h12⟩
    have h5k := List.all_eq_true.mp h5 k hk
    rw [prs_eq hou hP]
    cases ho : isOpen r k with
    | false => rfl
    | true =>
      rw [ho] at h5k
      simp only [Bool.not_true, Bool.false_or, Bool.and_eq_true] at h5k ⊢
      refine ⟨⟨decide_eq_true fun e => ?_, h5k.2⟩, List.all_eq_true.mpr fun j _ => decide_eq_true ?_⟩
      · have := h5k.1
        rw [e] at this
        exact absurd this (by decide)
      · have h3 := repl_len hou (Txt.slice r (some (k : Int)) (some ((k : Int) + 2 + (j : Int) * 2)))
        have h4 := Txt.length_slice_le r (some (k : Int)) (some ((k : Int) + 2 + (j : Int) * 2))
        unfold piece
        lia
noncomputable def hung3 : List Str := ["((()))", "(()())", "(())()", "(())()", "()(())", "()()()"]
noncomputable def hung4 : List Str := ["(((())))", "((()()))", "((())())", "((()))()", "((())())", "(()(()))", "(()()())", "(()())()", "((()))()", "(()())()",
  "(())(())", "(())()()", "((()))()", "(()())()", "(())(())", "(())()()", "(())(())", "()((()))", "()(()())",
  "()(())()", "(())()()", "()(())()", "()()(())", "()()()()"]
theorem hs_is3 : hsU 3 = hung3 := by decide +kernel
theorem hs_is4 : hsU 4 = hung4 := by decide +kernel
theorem rowB_3 : (rowsOf 3).all (rowB 3 hung3) = true := by decide +kernel
theorem rowB_4 : (rowsOf 4).all (rowB 4 hung4) = true := by decide +kernel
theorem rows_ok : ∀ ou, ou < 4 → (rowsOf 3).all (rowOk 3 ou) = true ∧ (rowsOf 4).all (rowOk 4 ou) = true := by
  intro ou h
  refine ⟨List.all_eq_true.mpr fun r hr => rowOk_of (by decide) h ?_, List.all_eq_true.mpr fun r hr => rowOk_of (by decide) h ?_⟩
  · rw [hs_is3]; exact List.all_eq_true.mp rowB_3 r hr
  · rw [hs_is4]; exact List.all_eq_true.mp rowB_4 r hr
end Mine
end
-- part N2
section
set_option maxRecDepth 100000
set_option linter.unusedVariables false
set_option maxHeartbeats 4000000
namespace Mine
open PyProof PySem PySem.Calls PyProof.Rows PySem.W PySem.W.X

/-- a polynomial's value, low coefficient first -/
noncomputable def ev (x : Int) : List Int → Int
  | [] => 0
  | a :: r => a + x * ev x r
noncomputable def addP : List Int → List Int → List Int
  | [], b => b
  | a, [] => a
  | a :: r, b :: s => (a + b) :: addP r s
noncomputable def sclP (k : Int) (a : List Int) : List Int := a.map (k * ·)
/-- times (p x + q) -/
noncomputable def linP (p q : Int) (a : List Int) : List Int := addP (sclP q a) (0 :: sclP p a)
theorem ev_add (x : Int) : ∀ a b, ev x (addP a b) = ev x a + ev x b := by
  intro a
  induction a with
  | nil => intro b; simp [addP, ev]
  | cons a r ih =>
    intro b
    cases b with
    | nil => simp [addP, ev]
    | cons b s =>
      show a + b + x * ev x (addP r s) = a + x * ev x r + (b + x * ev x s)
      rw [ih, Int.mul_add]; lia
theorem ev_scl (x k : Int) : ∀ a, ev x (sclP k a) = k * ev x a := by
  intro a
  induction a with
  | nil => simp [sclP, ev]
  | cons a r ih =>
    show k * a + x * ev x (sclP k r) = k * (a + x * ev x r)
    rw [ih, Int.mul_add, Int.mul_left_comm]
theorem ev_lin (x p q : Int) (a : List Int) : ev x (linP p q a) = ev x a * (x * p + q) := by
  unfold linP
  rw [ev_add, ev_scl]
  show q * ev x a + (0 + x * ev x (sclP p a)) = _
  rw [ev_scl, Int.mul_add, Int.zero_add, Int.mul_comm q]
  have e : x * (p * ev x a) = ev x a * (x * p) := by rw [← Int.mul_assoc, Int.mul_comm]
  lia
/-- the weight as a polynomial -/
noncomputable def wtP (op r : Str) : Nat → List Int
  | 0 => [1]
  | k + 1 => if isOpen r k then linP ((prs op r k).getLastD 0) 1 (wtP op r k) else wtP op r k
theorem ev_wt (op r : Str) (x : Int) : ∀ k, ev x (wtP op r k) = wtU op r x k := by
  intro k
  induction k with
  | zero => simp [wtP, wtU, ev]
  | succ k ih =>
    unfold wtP wtU
    split
    · rw [ev_lin, ih]
    · exact ih
noncomputable def whP (c : Nat) : Nat → List Int
  | 0 => [1]
  | i + 1 => linP ((c : Int) + 1 + (i : Int)) ((c : Int) + 1 - (i : Int)) (whP c i)
theorem ev_wh (c : Nat) (x : Int) : ∀ i, ev x (whP c i) = wholeU c x i := by
  intro i
  induction i with
  | zero => simp [whP, wholeU, ev]
  | succ i ih =>
    show ev x (linP _ _ (whP c i)) = wholeU c x i * facU c x i
    rw [ev_lin, ih]
    congr 1
    unfold facU
    rw [Int.mul_comm x]
    lia
/-- total and grown over the first rows -/
noncomputable def totU (c ou : Nat) (x : Int) : List Str → Int
  | [] => 0
  | r :: rs => (if (hsU c).contains r then ((hsU c).count r : Int) * wtU (opU ou) r x (2 * c) else 0) + totU c ou x rs
noncomputable def totP (c ou : Nat) : List Str → List Int
  | [] => []
  | r :: rs => addP (if (hsU c).contains r then sclP ((hsU c).count r : Int) (wtP (opU ou) r (2 * c)) else []) (totP c ou rs)
noncomputable def groU (c ou : Nat) : List Str → Int
  | [] => 0
  | r :: rs => (if (hsU c).contains r then (everyU c).fdiv (lsU (opU ou) r (2 * c)).2 else 0) + groU c ou rs
theorem ev_tot (c ou : Nat) (x : Int) : ∀ rs, ev x (totP c ou rs) = totU c ou x rs := by
  intro rs
  induction rs with
  | nil => simp [totP, totU, ev]
  | cons r rs ih =>
    unfold totP totU
    rw [ev_add, ih]
    split
    · rw [ev_scl, ev_wt]
    · simp [ev]
/-- the same without an opening, the hung rows handed in -/
noncomputable def wtB (r : Str) : Nat → List Int
  | 0 => [1]
  | k + 1 => if isOpen r k then linP ((prsB r k).getLastD 0) 1 (wtB r k) else wtB r k
noncomputable def totB (c : Nat) (hs : List Str) : List Str → List Int
  | [] => []
  | r :: rs => addP (if hs.contains r then sclP (hs.count r : Int) (wtB r (2 * c)) else []) (totB c hs rs)
noncomputable def groB (c : Nat) (hs : List Str) : List Str → Int
  | [] => 0
  | r :: rs => (if hs.contains r then (everyU c).fdiv (lsB r (2 * c)).2 else 0) + groB c hs rs
theorem wt_eq {ou : Nat} (hou : ou < 4) {r : Str} (h : Plain r.cps.toList) : ∀ n, wtP (opU ou) r n = wtB r n := by
  intro n
  induction n with
  | zero => rfl
  | succ n ih =>
    unfold wtP wtB
    rw [ih, prs_eq hou h]
theorem tot_eq {c ou : Nat} (hou : ou < 4) : ∀ rs : List Str, (∀ r ∈ rs, Plain r.cps.toList) → totP c ou rs = totB c (hsU c) rs ∧ groU c ou rs = groB c (hsU c) rs := by
  intro rs
  induction rs with
  | nil => intro _; exact ⟨rfl, rfl⟩
  | cons r rs ih =>
    intro h
    obtain ⟨i1, i2⟩ := ih fun q hq => h q (.tail _ hq)
    unfold totP totB groU groB
    rw [i1, i2, wt_eq hou (h r (.head _)), ls_eq hou (h r (.head _))]
    exact ⟨rfl, rfl⟩
theorem rows_plain3 : ∀ r ∈ rowsOf 3, Plain r.cps.toList := fun r hr x hx => by
  have h := List.all_eq_true.mp rowB_3 r hr
  unfold rowB at h
  rw [Bool.and_eq_true, Bool.and_eq_true, Bool.and_eq_true] at h
  have := List.all_eq_true.mp h.1.1.2 x hx
  simpa using this
theorem rows_plain4 : ∀ r ∈ rowsOf 4, Plain r.cps.toList := fun r hr x hx => by
  have h := List.all_eq_true.mp rowB_4 r hr
  unfold rowB at h
  rw [Bool.and_eq_true, Bool.and_eq_true, Bool.and_eq_true] at h
  have := List.all_eq_true.mp h.1.1.2 x hx
  simpa using this
theorem pol_3 : sclP 4 (totB 3 hung3 (rowsOf 3)) = whP 3 3 ∧ (totB 3 hung3 (rowsOf 3)).all (fun a => a % 2 == 0) = true ∧ groB 3 hung3 (rowsOf 3) = oddU 3 := by decide +kernel
theorem pol_4 : sclP 5 (totB 4 hung4 (rowsOf 4)) = whP 4 4 ∧ (totB 4 hung4 (rowsOf 4)).all (fun a => a % 2 == 0) = true ∧ groB 4 hung4 (rowsOf 4) = oddU 4 := by decide +kernel
theorem pols : ∀ ou, ou < 4 → (sclP 4 (totP 3 ou (rowsOf 3)) = whP 3 3 ∧ (totP 3 ou (rowsOf 3)).all (fun a => a % 2 == 0) = true ∧ groU 3 ou (rowsOf 3) = oddU 3) ∧
    (sclP 5 (totP 4 ou (rowsOf 4)) = whP 4 4 ∧ (totP 4 ou (rowsOf 4)).all (fun a => a % 2 == 0) = true ∧ groU 4 ou (rowsOf 4) = oddU 4) := by
  intro ou h
  rw [(tot_eq h _ rows_plain3).1, (tot_eq h _ rows_plain3).2, (tot_eq h _ rows_plain4).1, (tot_eq h _ rows_plain4).2, hs_is3, hs_is4]
  exact ⟨pol_3, pol_4⟩
end Mine
end
-- part M38
section
set_option maxRecDepth 100000
set_option linter.unusedVariables false
set_option maxHeartbeats 4000000
namespace Mine
open PyProof PySem PySem.Calls PyProof.Rows PySem.W PySem.W.X
section
variable {w : World} {A : Around} {E : Value → Shared → Prop} {h : Heap} {gn : Array GenState} {d : Drawn} {t : Nat} {os : OsState} {g : Heap} {L a : Addr} {i : Nat} {vals : List (Option Value)} {own : List (Addr × Obj)}
  {fa : Nat → Addr} {mg mb : Str → Option Value} {n : Str} {cd : Value} {pos : Pos} {sco : Scope} {env : Env}

/-- a for over anything that walks: the turn over a base that holds all but the frame's own -/
theorem walk_for3 {x : Str} {kx m : Nat} {px : Pos} {body : List Stmt} {R : Result → Shared → Prop} {I : Addr} {fp wr : List Addr} {P : Nat → Value → Prop} {Sx : Nat → Heap → Prop}
    (W : Walks pg w A I fp wr m P Sx) (q : LocS sco x kx) (J : Nat → List (Option Value) → List (Addr × Obj) → Prop)
    (turn : ∀ k v vals own g₂ h t₁ gn', k < m → P k v → t ≤ t₁ → J k vals own → Keep g g₂ → GX gn gn' → St g₂ L (lcS sco) (vals.set kx (some v)) own h →
      wpAny (model pg w) A (execs body env) (fun f s' => (f = .next ∧ ∃ h' t' gn'' vals' own', s' = ⟨h', gn'', d, t', os⟩ ∧ GX gn gn'' ∧ St g₂ L (lcS sco) vals' own' h' ∧ J (k + 1) vals' own') ∨ (∃ v, f = .ret v ∧ R (.ok (.ret v)) s'))
        (fun _ _ => False) ⟨h, gn', d, t₁, os⟩)
    (done : ∀ vals own h t₁ gn', J m vals own → t ≤ t₁ → GX gn gn' → St g L (lcS sco) vals own h → R (.ok .next) ⟨h, gn', d, t₁, os⟩)
    (hJ : J 0 vals own) (S : St g L (lcS sco) vals own h) (hI : Sx 0 h) (hL : L ∉ fp) (hown : ∀ p ∈ own, p.1 ∉ fp) (hwg : ∀ b ∈ wr, g.get? b = none) (hfl : ∀ k h, Sx k h → ∀ b ∈ fp, h.get? b ≠ none) (V : EnvIs env sco L := by exact ⟨rfl, rfl, rfl, rfl⟩) :
    codeAny (model pg w) A (.forLoop (.Name x px) (.ref I) body [] env) R ⟨h, gn, d, t, os⟩ := by
  have hLw : L ∉ wr := fun hm => hL (W.sub L hm)
  obtain ⟨Inv, hInv⟩ : ∃ Inv : Nat → Shared → Prop, Inv = fun r s => ∃ k vals own' h t₁ gn', s = ⟨h, gn', d, t₁, os⟩ ∧ t ≤ t₁ ∧ r = m - k ∧ k ≤ m ∧ J k vals own' ∧ GX gn gn' ∧ St g L (lcS sco) vals own' h ∧ Sx k h ∧ ∀ p ∈ own', p.1 ∉ fp := ⟨_, rfl⟩
  refine codeAny_forLoop_any Inv ?_ m
    (by rw [hInv]; exact ⟨0, vals, own, h, t, gn, rfl, Nat.le_refl _, rfl, Nat.zero_le _, hJ, id, S, hI, hown⟩)
  clear hJ S hI
  intro r s hInv0
  rw [hInv] at hInv0
  obtain ⟨k, vals, own', h, t₁, gn', rfl, ht, rfl, hk, hJ, gx, S, hI, hown'⟩ := hInv0
  by_cases hkm : k = m
  · subst hkm
    refine wpAny_with_toks (n := t) ht (W.done _ _ _ hI fun h' tk hk' hle => ?_)
    have S' := S.moved (wr := wr) hk' hLw hwg fun p hp hm => hown' p hp (W.sub _ hm)
    exact wpAny_execs_nil (done vals own' h' tk gn' hJ hle gx S')
  · refine wpAny_with_toks (n := t) ht (W.item k _ _ _ (Nat.lt_of_le_of_ne hk hkm) hI fun v h' tk hP hI' hk' hle => ?_)
    have S' := S.moved (wr := wr) hk' hLw hwg fun p hp hm => hown' p hp (W.sub _ hm)
    show wpAny _ A (pure ()) _ _ _
    refine wpAny_pure (wpAny_assign_Name (wpAny_with_toks (n := t) hle (r_st S'.rebase q (fun h₃ t₃ S₃ e₃ hle₃ => ?_) V)))
    refine wpAny_mono (wpAny_toks_of (n := t) hle₃ (turn k v vals own' _ h₃ t₃ gn' (Nat.lt_of_le_of_ne hk hkm) hP hle₃ hJ S'.below gx S₃)) (fun f s₃ hp => ?_) fun _ _ h => h.2.elim
    obtain ⟨hle₄, hp⟩ := hp
    rcases hp with ⟨rfl, h₄, t₄, gn₄, vals₄, own₄, rfl, gx₄, S₄, hJ₄⟩ | ⟨v', rfl, hr⟩
    · refine ⟨m - (k + 1), by lia, ?_⟩
      rw [hInv]
      refine ⟨k + 1, vals₄, own₄, h₄, t₄, gn₄, rfl, hle₄, rfl, by lia, hJ₄, gx₄, S₄.weaken S'.below, W.frame (k + 1) h' h₄ hI' (fun b hb o e => ?_), fun p hp hb => ?_⟩
      refine S₄.keep b o ?_
      rw [hide_get, if_neg, e]
      intro hm
      rcases List.mem_cons.mp hm with rfl | hm
      · exact hL hb
      · obtain ⟨p, hp, rfl⟩ := List.mem_map.mp hm
        exact hown' p hp hb
      · refine hfl _ _ hI' p.1 hb ?_
        have := (S₄.isOwn p hp).2.2
        rw [hide_get, if_neg] at this
        · exact this
        · intro hm
          rcases List.mem_cons.mp hm with e | hm
          · exact hL (e ▸ hb)
          · obtain ⟨q, hq, e⟩ := List.mem_map.mp hm
            exact hown' q hq (e ▸ hb)
    · exact hr

theorem for_range3 {x : Str} {kx m : Nat} {px : Pos} {body : List Stmt} {R : Result → Shared → Prop} {r : Addr} {a₀ b₀ c₀ : Int} {u₁ u₂ u₃ : Tok} (hA : A.handled = none) (S : St g L (lcS sco) vals own h) (hr : IsRange h r a₀ b₀ c₀ u₁ u₂ u₃)
    (hsm : Builtin.Range.small a₀ b₀ c₀ = true) (hsz : Builtin.Range.rangeSize a₀ b₀ c₀ = (m : Int)) (q : LocS sco x kx) (J : Nat → List (Option Value) → List (Addr × Obj) → Prop)
    (turn : ∀ k tk vals own g₂ h t₁ gn', k < m → t ≤ t₁ → J k vals own → Keep g g₂ → GX gn gn' → St g₂ L (lcS sco) (vals.set kx (some (.int (a₀ + k * c₀) tk))) own h →
      wpAny (model pg w) A (execs body env) (fun f s' => (f = .next ∧ ∃ h' t' gn'' vals' own', s' = ⟨h', gn'', d, t', os⟩ ∧ GX gn gn'' ∧ St g₂ L (lcS sco) vals' own' h' ∧ J (k + 1) vals' own') ∨ (∃ v, f = .ret v ∧ R (.ok (.ret v)) s'))
        (fun _ _ => False) ⟨h, gn', d, t₁, os⟩)
    (done : ∀ vals own h t₁ gn', J m vals own → t ≤ t₁ → GX gn gn' → St g L (lcS sco) vals own h → R (.ok .next) ⟨h, gn', d, t₁, os⟩)
    (hJ : J 0 vals own) (V : EnvIs env sco L := by exact ⟨rfl, rfl, rfl, rfl⟩) :
    wpAny (model pg w) A (pyIter (.ref r)) (fun it s₂ => codeAny (model pg w) A (.forLoop (.Name x px) it body [] env) R s₂) E ⟨h, gn, d, t, os⟩ := by
  refine wpAny_pyIter_range (s := ⟨h, gn, d, t, os⟩) hr hsm ?_
  have S' := (S.push { cls := .type "range_iterator", data := .fields #[rawInt a₀, rawInt (Builtin.Range.rangeSize a₀ b₀ c₀), rawInt c₀] }).drop (List.sublist_cons_self _ _)
  refine walk_for3 (V := V) (Walks.range hA h.objs.size a₀ c₀ m) q J ?_ done hJ S' ?_ ?_ ?_ ?_ ?_
  · rintro k v vals own g₂ h t₁ gn' hk ⟨tk, rfl⟩ ht hJ hk2 gx S₂
    exact turn k tk vals own g₂ h t₁ gn' hk ht hJ hk2 gx S₂
  · show IsRangeIter _ _ _ _ _
    have e1 : a₀ + ((0 : Nat) : Int) * c₀ = a₀ := by simp
    have e2 : ((m : Int) - ((0 : Nat) : Int)) = m := by simp
    rw [e1, e2, ← hsz]
    exact Heap.get?_push_size _ rfl
  · simpa using Nat.ne_of_lt S.isNs.lt
  · intro p hp
    simpa using Nat.ne_of_lt (S.own_lt hp)
  · intro b hb
    rw [List.mem_singleton.mp hb]; exact S.fresh
  · intro k h hh b hb e
    have hh' : IsRangeIter _ _ _ _ _ := hh
    rw [List.mem_singleton.mp hb] at e
    rw [show h.get? _ = some _ from hh'] at e; cases e

theorem for_list3 {x : Str} {kx : Nat} {px : Pos} {body : List Stmt} {R : Result → Shared → Prop} {ax : Addr} {items : Array Value} (hA : A.handled = none) (S : St g L (lcS sco) vals own h) (hl : h.IsList ax items) (hx : ax ≠ L) (hxo : ∀ p ∈ own, p.1 ≠ ax)
    (q : LocS sco x kx) (J : Nat → List (Option Value) → List (Addr × Obj) → Prop)
    (turn : ∀ k v vals own g₂ h t₁ gn', items[k]? = some v → t ≤ t₁ → J k vals own → Keep g g₂ → GX gn gn' → St g₂ L (lcS sco) (vals.set kx (some v)) own h →
      wpAny (model pg w) A (execs body env) (fun f s' => (f = .next ∧ ∃ h' t' gn'' vals' own', s' = ⟨h', gn'', d, t', os⟩ ∧ GX gn gn'' ∧ St g₂ L (lcS sco) vals' own' h' ∧ J (k + 1) vals' own') ∨ (∃ v, f = .ret v ∧ R (.ok (.ret v)) s'))
        (fun _ _ => False) ⟨h, gn', d, t₁, os⟩)
    (done : ∀ vals own h t₁ gn', J items.size vals own → t ≤ t₁ → GX gn gn' → St g L (lcS sco) vals own h → R (.ok .next) ⟨h, gn', d, t₁, os⟩)
    (hJ : J 0 vals own) (V : EnvIs env sco L := by exact ⟨rfl, rfl, rfl, rfl⟩) :
    wpAny (model pg w) A (pyIter (.ref ax)) (fun it s₂ => codeAny (model pg w) A (.forLoop (.Name x px) it body [] env) R s₂) E ⟨h, gn, d, t, os⟩ := by
  refine wpAny_pyIter_list (s := ⟨h, gn, d, t, os⟩) hl ?_
  have hlt : ax < h.objs.size := let ⟨o, ho, _⟩ := hl; Heap.lt_size ho
  have S' := (S.push { cls := .type "list_iterator", data := .fields #[.ref ax, .int 0 0] }).drop (List.sublist_cons_self _ _)
  refine walk_for3 (V := V) (Walks.list hA h.objs.size ax (Nat.ne_of_lt hlt) items) q J ?_ done hJ S' ⟨⟨_, Heap.get?_push_size _ rfl, rfl, rfl⟩, hl.push _⟩ ?_ ?_ ?_ ?_
  · rintro k v vals own g₂ h t₁ gn' hk hv ht hJ hk2 gx S₂
    exact turn k v vals own g₂ h t₁ gn' hv ht hJ hk2 gx S₂
  · have := Nat.ne_of_lt S.isNs.lt
    simp [this, hx.symm]
  · intro p hp
    have h1 := Nat.ne_of_lt (S.own_lt hp)
    have h2 := hxo p hp
    simp [h1, h2]
  · intro b hb
    rw [List.mem_singleton.mp hb]; exact S.fresh
  · intro k h hh b hb e
    obtain ⟨⟨o, ho, _⟩, ⟨o', ho', _⟩⟩ := hh
    rcases List.mem_cons.mp hb with rfl | hb
    · rw [ho] at e; cases e
    · rw [List.mem_singleton.mp hb, ho'] at e; cases e

end
end Mine
end
-- part M39
section
set_option maxRecDepth 100000
set_option linter.unusedVariables false
set_option maxHeartbeats 4000000
namespace Mine
open PyProof PySem PySem.Calls PyProof.Rows PySem.W PySem.W.X

theorem map_ins (f : Str → Str) (o : List Str) (x : Str) : ∀ k, insU (o.map f) (f x) k = (insU o x k).map (List.map f) := by
  intro k
  induction k with
  | zero => rfl
  | succ k ih =>
    show insU (o.map f) (f x) k ++ [putAt (o.map f) (f x) k] = (insU o x k ++ [putAt o x k]).map (List.map f)
    rw [ih, List.map_append]
    simp [putAt]
theorem map_orders (f : Str → Str) : ∀ (ns : List Str) (os : List (List Str)), (ns.map f).foldl stepO (os.map (List.map f)) = (ns.foldl stepO os).map (List.map f) := by
  intro ns
  induction ns with
  | nil => intro os; rfl
  | cons x r ih =>
    intro os
    show (r.map f).foldl stepO (stepO (os.map (List.map f)) (f x)) = (r.foldl stepO (stepO os x)).map (List.map f)
    rw [← ih]
    congr 1
    unfold stepO
    rw [List.flatMap_map, List.map_flatMap]
    congr 1
    funext o
    rw [← map_ins, List.length_map]
/-- f keeps the order of the names of o -/
noncomputable def KeepsColl (f : Str → Str) (o : List Str) : Prop := ∀ a ∈ o, ∀ b ∈ o, coll (f a) (f b) = coll a b
theorem map_least (f : Str → Str) (o : List Str) (h : KeepsColl f o) : ∀ j, j + 1 ≤ o.length → leastU (o.map f) j = leastU o j := by
  intro j
  induction j with
  | zero => intro _; rfl
  | succ j ih =>
    intro hj
    have hl := least_le o j
    unfold leastU
    rw [ih (by lia)]
    have h1 : (o.map f).getD (1 + j) "" = f (o.getD (1 + j) "") := by
      rw [List.getD, List.getD, List.getElem?_map, List.getElem?_eq_getElem (by lia)]; rfl
    have h2 : (o.map f).getD (leastU o j) "" = f (o.getD (leastU o j) "") := by
      rw [List.getD, List.getD, List.getElem?_map, List.getElem?_eq_getElem (by lia)]; rfl
    rw [h1, h2, h _ (by rw [List.getD, List.getElem?_eq_getElem (by lia)]; exact List.getElem_mem _) _ (by rw [List.getD, List.getElem?_eq_getElem (by lia)]; exact List.getElem_mem _)]
theorem map_hung (f : Str → Str) : ∀ (k : Nat) (o : List Str), KeepsColl f o → hungU k (o.map f) = hungU k o := by
  intro k
  induction k with
  | zero => intro o _; rfl
  | succ k ih =>
    intro o h
    unfold hungU
    rw [List.length_map]
    by_cases h0 : o.length = 0
    · rw [if_pos h0, if_pos h0]
    · rw [if_neg h0, if_neg h0, map_least f o h _ (by lia), ← List.map_take, ← List.map_drop, ih _ fun a ha b hb => h a (List.mem_of_mem_take ha) b (List.mem_of_mem_take hb), ih _ fun a ha b hb => h a (List.mem_of_mem_drop ha) b (List.mem_of_mem_drop hb)]
theorem ins_sub (o : List Str) (x : Str) : ∀ k, ∀ q ∈ insU o x k, ∀ a ∈ q, a = x ∨ a ∈ o := by
  intro k
  induction k with
  | zero => intro q hq; cases hq
  | succ k ih =>
    intro q hq a ha
    rcases List.mem_append.mp hq with h | h
    · exact ih q h a ha
    · rw [List.mem_singleton.mp h] at ha
      unfold putAt at ha
      simp only [List.mem_append, List.mem_singleton] at ha
      rcases ha with (h | h) | h
      · exact .inr (List.mem_of_mem_take h)
      · exact .inl h
      · exact .inr (List.mem_of_mem_drop h)
theorem orders_sub (P : Str → Prop) : ∀ (ns : List Str) (os : List (List Str)), (∀ n ∈ ns, P n) → (∀ o ∈ os, ∀ a ∈ o, P a) → ∀ o ∈ ns.foldl stepO os, ∀ a ∈ o, P a := by
  intro ns
  induction ns with
  | nil => intro os _ h; exact h
  | cons x r ih =>
    intro os h1 h2
    refine ih _ (fun n hn => h1 n (.tail _ hn)) fun o ho a ha => ?_
    obtain ⟨q, hq, ho⟩ := List.mem_flatMap.mp ho
    rcases ins_sub q x _ o ho a ha with rfl | h
    · exact h1 _ (.head _)
    · exact h2 q hq a h
/-- the hung texts do not depend on the names -/
theorem hung_same {c : Nat} {ys : List Str} (hc : c ≤ 4) (hl : ys.length = c) (hp : ys.Pairwise ltS) : (ordersU ys).map (hungU 5) = hsU c := by
  have hN : (Nc c).length = c ∧ (Nc c).Pairwise ltS ∧ (Nc c).Nodup := by
    have : ∀ c, c ≤ 4 → (Nc c).length = c ∧ (Nc c).Pairwise (fun a b => a.cps.toList < b.cps.toList) ∧ (Nc c).Nodup := by
      intro c hc
      match c, hc with
      | 0, _ => decide +kernel
      | 1, _ => decide +kernel
      | 2, _ => decide +kernel
      | 3, _ => decide +kernel
      | 4, _ => decide +kernel
    exact this c hc
  obtain ⟨n1, n2, n3⟩ := hN
  have hf : ∀ a ∈ Nc c, ∃ i, i < c ∧ a = (Nc c).getD i "" ∧ ys.getD ((Nc c).idxOf a) "" = ys.getD i "" := fun a ha => by
    have hi : (Nc c).idxOf a < (Nc c).length := List.idxOf_lt_length_of_mem ha
    refine ⟨(Nc c).idxOf a, by lia, ?_, rfl⟩
    rw [List.getD, List.getElem?_eq_getElem hi, List.getElem_idxOf]; rfl
  have hmap : ys = (Nc c).map fun s => ys.getD ((Nc c).idxOf s) "" := by
    apply List.ext_getElem
    · rw [List.length_map]; lia
    · intro i h1 h2
      rw [List.getElem_map, n3.idxOf_getElem, List.getD, List.getElem?_eq_getElem h1]; rfl
  have hkeep : ∀ o ∈ ordersU (Nc c), KeepsColl (fun s => ys.getD ((Nc c).idxOf s) "") o := fun o ho a ha b hb => by
    have hsub := orders_sub (· ∈ Nc c) (Nc c) [[]] (fun _ h => h) (fun o ho a ha => by rw [List.mem_singleton.mp ho] at ha; cases ha) o ho
    obtain ⟨i, hi, e1, e2⟩ := hf a (hsub a ha)
    obtain ⟨j, hj, e3, e4⟩ := hf b (hsub b hb)
    show coll (ys.getD ((Nc c).idxOf a) "") (ys.getD ((Nc c).idxOf b) "") = coll a b
    rw [e2, e4, coll_names hp (by lia) (by lia), e1, e3, coll_names n2 (by lia) (by lia)]
  unfold hsU
  have e : ordersU ys = (ordersU (Nc c)).map (List.map fun s => ys.getD ((Nc c).idxOf s) "") := by
    have h1 := map_orders (fun s => ys.getD ((Nc c).idxOf s) "") (Nc c) [[]]
    rw [← hmap] at h1
    exact h1
  rw [e, List.map_map]
  exact List.map_congr_left fun o ho => map_hung _ 5 o (hkeep o ho)
end Mine
end
-- part M40
section
set_option maxRecDepth 100000
set_option linter.unusedVariables false
set_option maxHeartbeats 4000000
namespace Mine
open PyProof PySem PySem.Calls PyProof.Rows PySem.W PySem.W.X

section
variable {w : World} {A : Around} {E : Value → Shared → Prop} {h h' : Heap} {gn : Array GenState} {d : Drawn} {t : Nat} {os : OsState} {g : Heap} {L a : Addr} {i : Nat} {vals : List (Option Value)} {own : List (Addr × Obj)}
  {fa : Nat → Addr} {mg mb : Str → Option Value} {n : Str} {cd : Value} {pos : Pos} {sco : Scope} {env : Env} {ns : List Str} {c8 P8 c9 P9 : Addr} {τ8 τ9 rest : List (Addr × Obj)}
/-- the frame's first thirteen names within the rows' loop -/
noncomputable abbrev V13 (D : Addr) (c : Nat) (tc : Tok) (ou : Nat) (to : Tok) (x : Int) (tx : Tok) (NA : Addr) (v5 v6 : Option Value) (HA : Addr) (t8 t9 t10 : Tok) (T : Int) (t11 : Tok) (G : Int) (t12 : Tok) : List (Option Value) :=
  V5 D c tc ou to x tx NA ++ [v5, v6, some (.ref HA), some (.int (wholeU c x c) t8), some (.int (everyU c) t9), some (.int (oddU c) t10), some (.int T t11), some (.int G t12)]
/-- what a row must answer -/
structure RowIs (c ou : Nat) (r : Str) : Prop where
  len : r.length = 2 * c
  prs_ne : ∀ k, k < 2 * c → isOpen r k = true → prs (opU ou) r k ≠ []
  prs_in : ∀ k, k < 2 * c → isOpen r k = true → ∀ p ∈ prs (opU ou) r k, 1 ≤ p ∧ p ≤ 8
  piece_le : ∀ k, k < 2 * c → isOpen r k = true → ∀ j, j < mAt (2 * c) k → (piece r (opU ou) (k : Int) ((k : Int) + 2 + (j : Int) * 2)).length ≤ 1000
noncomputable def rowBody : List Stmt := match tl 14 with
  | .For _ _ b _ _ :: _ => b
  | _ => []
noncomputable def rowElse : List Stmt := match (rowBody[1]? : Option Stmt) with
  | some (.If _ _ b _) => b
  | _ => []
noncomputable def atBody : List Stmt := match (rowElse[4]? : Option Stmt) with
  | some (.For _ _ b _ _) => b
  | _ => []
theorem item_open {r : Str} {k : Nat} (hk : k < r.length) : (Txt.charAt r (k : Int)).isSome = true ∧ ((Txt.item r (k : Int)).cps.toList == (Str.ofString "(").cps.toList) = isOpen r k := by
  have hk' : k < r.cps.size := hk
  have h0 : ¬ ((k : Int) < 0) := by lia
  have h1 : ((0 : Int) ≤ (k : Int)) := by lia
  have h2 : ((k : Int) < (r.length : Int)) := by lia
  have e : Txt.charAt r (k : Int) = some r.cps[k] := by
    unfold Txt.charAt seqIndex?
    simp only [if_neg h0, decide_eq_true h1, decide_eq_true h2, Bool.and_true, if_true]
    show r.cps[(k : Int).toNat]? = _
    rw [Int.toNat_natCast, Array.getElem?_eq_getElem hk']
  refine ⟨by rw [e]; rfl, ?_⟩
  unfold Txt.item isOpen
  rw [e, Array.getElem?_eq_getElem hk']
  show ([r.cps[k]] == [40]) = (r.cps[k] == 40)
  simp
theorem pairs_le (row op : Str) (a : Int) : ∀ m, (pairsU row op a m).length ≤ m := by
  intro m
  induction m with
  | zero => exact Nat.le_refl _
  | succ m ih =>
    unfold pairsU
    split
    · simp; exact ih
    · lia
theorem last_getD (l : List Int) : l.getD (l.length - 1) 0 = l.getLastD 0 := by
  rw [List.getLastD_eq_getLast?, List.getLast?_eq_getElem?, List.getD]
theorem head_getD (l : List Int) : l.getD 0 0 = l.headD 0 := by cases l <;> rfl
theorem op_len {ou : Nat} (h : ou < 4) : (opU ou).length ≤ 100 := by
  match ou, h with
  | 0, _ => decide
  | 1, _ => decide
  | 2, _ => decide
  | 3, _ => decide
theorem small2 : ∀ k : Nat, k < 9 → ∀ l : Nat, l < 9 → Builtin.Range.small ((k : Int) + 2) ((l : Int) + 1) 2 = true ∧ mAt l k ≤ 10 := by decide +kernel
theorem at_turn {c ou : Nat} {r : Str} {x : Int} {D NA HA : Addr} {tc to tx tr u1 u2 u3 tk t8 t9 t10 t11 t12 : Tok} {v5 v6 v19 v20 v21 : Option Value} {k : Nat} {T G : Int} {l s wt : Int} {Q : Flow → Shared → Prop}
    (B : Base fa mg mb g) (hA : A.handled = none) (hroom : A.depth + 60 < recursionLimit) (hu : A.units + 100 < cLine) (hto : 0 < to ∧ to < t) (hc : c = 3 ∨ c = 4) (hou : ou < 4) (R : RowIs c ou r) (hk : k < 2 * c)
    (hl : Builtin.Int.intBits l ≤ 10 * k + 2) (hs : Builtin.Int.intBits s ≤ 10 * k + 2) (hw : Builtin.Int.intBits wt ≤ 300 * k + 2) (hx : x.natAbs ≤ 10 ^ 60 + 2)
    (S : St g L (lc 21) (V13 D c tc ou to x tx NA v5 v6 HA t8 t9 t10 T t11 G t12 ++ [some (.str r tr), some (.bool true), some (.int l u1), some (.int s u2), some (.int wt u3), some (.int (k : Int) tk), v19, v20, v21, none, none, none]) own h)
    (fin : ∀ h' t' gn' u1 u2 u3 v19, GX gn gn' → St g L (lc 21) (V13 D c tc ou to x tx NA v5 v6 HA t8 t9 t10 T t11 G t12 ++ [some (.str r tr), some (.bool true),
        some (.int (if isOpen r k then l * (prs (opU ou) r k).getLastD 0 else l) u1), some (.int (if isOpen r k then s * (prs (opU ou) r k).headD 0 else s) u2), some (.int (if isOpen r k then wt * (x * (prs (opU ou) r k).getLastD 0 + 1) else wt) u3), some (.int (k : Int) tk), v19, v20, v21, none, none, none]) own h' → Q .next ⟨h', gn', d, t', os⟩) :
    wpAny (model pg w) A (execs atBody (envOfC (nm 21) (sc 21) L a cd)) Q (fun _ _ => False) ⟨h, gn, d, t, os⟩ := by
  have hrl := R.len
  refine wpAny_execs_cons (wpAny_If (wpAny_isTrue_Compare1 ?_))
  refine Subscript_Name (r_loc S v21_row rfl (r_loc S v21_at rfl ?_))
  obtain ⟨i1, i2⟩ := item_open (r := r) (k := k) (by lia)
  refine SB.item (by simp [fitsSsize]; lia) i1 (wpAny_with_toks (n := t) (Nat.le_succ _) (c_str fun t₂ ht₂ => P.eq_str (wpAny_truthy_bool ?_)))
  replace ht₂ : t ≤ t₂ := ht₂
  rw [i2]
  cases hop : isOpen r k with
  | false =>
    rw [if_neg Bool.false_ne_true]
    rw [hop] at fin
    repeat refine wpAny_execs_nil ?_
    exact fin _ _ _ _ _ _ _ id S
  | true =>
    rw [if_pos rfl]
    rw [hop] at fin
    obtain ⟨sm, smm⟩ := small2 k (by lia) r.length (by lia)
    refine wpAny_execs_cons (wpAny_Assign_Name (Call_ (r_fn S B g21__law_pairs (by decide) ?_)))
    refine call_fn B (by decide) (acons (r_loc S v21_row rfl (acons (r_loc S v21_at rfl (acons (r_loc S v21_opening rfl (anil ⟨S.keep, wpAny_call ?_⟩)))))))
    refine pairs_spec (m := mAt r.length k) (B.keeps S.keep) hA (by lia) (by lia) (op_len hou) (by lia) (rangeSize_toNat _ _ _) sm (by lia) (fun j hj => ?_) ⟨hto.1, Nat.lt_of_lt_of_le hto.2 ht₂⟩ fun h₂ t₃ gn₂ PA items nn hk₂ gx hPs hPA hPI => ?_
    · exact R.piece_le k hk hop j (by rw [← hrl]; exact hj)
    have hPI' : IntsAre items.toList (prs (opU ou) r k) := hPI
    have hne := R.prs_ne k hk hop
    have hin := R.prs_in k hk hop
    have hsz : items.size = (prs (opU ou) r k).length := by have := ints_len hPI'; simpa using this
    have hpos : 0 < (prs (opU ou) r k).length := List.length_pos_iff.mpr hne
    obtain ⟨ul, hul⟩ := ints_get hPI' (k := (prs (opU ou) r k).length - 1) (by lia)
    obtain ⟨uf, huf⟩ := ints_get hPI' (k := 0) hpos
    rw [last_getD] at hul
    rw [head_getD] at huf
    have hlm : 1 ≤ (prs (opU ou) r k).getLastD 0 ∧ (prs (opU ou) r k).getLastD 0 ≤ 8 := by
      rw [← last_getD, List.getD, List.getElem?_eq_getElem (by lia)]
      exact hin _ (List.getElem_mem _)
    have hfm : 1 ≤ (prs (opU ou) r k).headD 0 ∧ (prs (opU ou) r k).headD 0 ≤ 8 := by
      rw [← head_getD, List.getD, List.getElem?_eq_getElem hpos]
      exact hin _ (List.getElem_mem _)
    have hsmall : items.size ≤ 1000 := by
      rw [hsz]
      exact Nat.le_trans (pairs_le _ _ _ _) (by lia)
    clear hPI hin
    generalize (prs (opU ou) r k).getLastD 0 = pl at *
    generalize (prs (opU ou) r k).headD 0 = pf at *
    have S₂ := S.adopt hk₂ hPA hPs
    refine r_st S₂ v21_pairs fun h₃ t₄ S₃ _ => ?_
    have hPl : ∀ {h' vals'}, St g L (lc 21) vals' ((PA, lst items nn) :: own) h' → h'.IsList PA items := fun S' => isList_of (S'.isOwn _ (.head _)).1
    refine wpAny_execs_cons (wpAny_If (wpAny_isTrue_Compare1 (r_loc S₃ v21_pairs rfl (List_ (anil ?_)))))
    refine new_list (le_line (by show 0 ≤ _; lia)) ?_
    have S₄ : St g L (lc 21) _ ((PA, lst items nn) :: own) (h₃.push (lst #[] 0)) := S₃.keeps fun b o e => Heap.get?_push_of_some _ e
    refine o_eq_nil (hPl S₄) (isList_of (Heap.get?_push_size _ rfl)) (by lia) (wpAny_truthy_bool ?_)
    rw [show (items.size == 0) = false by rw [hsz]; exact beq_eq_false_iff_ne.mpr (Nat.ne_of_gt hpos), if_neg Bool.false_ne_true]
    refine wpAny_execs_nil ?_
    refine wpAny_execs_cons (wpAny_AugAssign_Name (r_ldn S₄ v21_longest rfl ?_))
    refine Subscript_UnaryOp (r_loc S₄ v21_pairs rfl (wpAny_UnaryOp (c_int fun t₅ => o_neg fun u₄ t₆ => item_last (x := .int pl ul) (hPl S₄) (by lia) (by rw [hsz]; simpa using hul) ?_)))
    refine o_imul (.of_right (PySem.intBits_le_64 (by lia) (by lia))) fun u₅ t₇ => r_st S₄ v21_longest fun h₅ t₈ S₅ _ => ?_
    refine wpAny_execs_cons (wpAny_AugAssign_Name (r_ldn S₅ v21_shortest rfl ?_))
    refine Subscript_Constant (r_loc S₅ v21_pairs rfl (c_int fun t₉ => item_nn (k := 0) (x := .int pf uf) (hPl S₅) (by lia) (by simpa using huf) ?_))
    refine o_imul (.of_right (PySem.intBits_le_64 (by lia) (by lia))) fun u₆ t₁₀ => r_st S₅ v21_shortest fun h₆ t₁₁ S₆ _ => ?_
    refine wpAny_execs_cons (wpAny_AugAssign_Name (r_ldn S₆ v21_weight rfl ?_))
    refine wpAny_BinOp (wpAny_BinOp (r_loc S₆ v21_x rfl ?_))
    refine Subscript_UnaryOp (r_loc S₆ v21_pairs rfl (wpAny_UnaryOp (c_int fun t₁₂ => o_neg fun u₇ t₁₃ => item_last (x := .int pl ul) (hPl S₆) (by lia) (by rw [hsz]; simpa using hul) ?_)))
    refine o_mul (.of_right (PySem.intBits_le_64 (by lia) (by lia))) fun u₈ t₁₄ => c_int fun t₁₅ => o_add fun u₉ t₁₆ => ?_
    have hxb : Builtin.Int.intBits x ≤ 200 := PyProof.Rows.intBits_le (Nat.lt_of_le_of_lt hx (by decide +kernel))
    have hpb : Builtin.Int.intBits pl ≤ 64 := PySem.intBits_le_64 (by lia) (by lia)
    have hlin := PySem.intBits_add_le (PySem.intBits_mul_le hxb hpb) (PyProof.Rows.intBits_le (a := 1) (k := 1) (by decide))
    refine o_imul (.of_bits (Nat.le_trans hw (by lia)) (Nat.le_trans hlin (by decide))) fun u₁₀ t₁₇ => r_st S₆ v21_weight fun h₇ t₁₈ S₇ _ => ?_
    repeat refine wpAny_execs_nil ?_
    exact fin _ _ _ _ _ _ _ gx (S₇.drop (List.sublist_cons_self _ _))
end
end Mine
end
-- part M41
section
set_option maxRecDepth 100000
set_option linter.unusedVariables false
set_option maxHeartbeats 4000000
namespace Mine
open PyProof PySem PySem.Calls PyProof.Rows PySem.W PySem.W.X

theorem RowIs.last_in {c ou : Nat} {r : Str} (R : RowIs c ou r) {k : Nat} (hk : k < 2 * c) (ho : isOpen r k = true) : (1 ≤ (prs (opU ou) r k).getLastD 0 ∧ (prs (opU ou) r k).getLastD 0 ≤ 8) ∧ (1 ≤ (prs (opU ou) r k).headD 0 ∧ (prs (opU ou) r k).headD 0 ≤ 8) := by
  have hpos : 0 < (prs (opU ou) r k).length := List.length_pos_iff.mpr (R.prs_ne k hk ho)
  refine ⟨?_, ?_⟩
  · rw [← last_getD, List.getD, List.getElem?_eq_getElem (by lia)]
    exact R.prs_in k hk ho _ (List.getElem_mem _)
  · rw [← head_getD, List.getD, List.getElem?_eq_getElem hpos]
    exact R.prs_in k hk ho _ (List.getElem_mem _)
theorem ls_bits {c ou : Nat} {r : Str} (R : RowIs c ou r) : ∀ k, k ≤ 2 * c → Builtin.Int.intBits (lsU (opU ou) r k).1 ≤ 10 * k + 2 ∧ Builtin.Int.intBits (lsU (opU ou) r k).2 ≤ 10 * k + 2 := by
  intro k
  induction k with
  | zero => intro _; exact ⟨PyProof.Rows.intBits_le (a := 1) (by decide), PyProof.Rows.intBits_le (a := 1) (by decide)⟩
  | succ k ih =>
    intro hk
    obtain ⟨h1, h2⟩ := ih (by lia)
    unfold lsU
    cases ho : isOpen r k with
    | false => rw [if_neg Bool.false_ne_true]; exact ⟨by lia, by lia⟩
    | true =>
      rw [if_pos rfl]
      obtain ⟨l1, l2⟩ := R.last_in (k := k) (by lia) ho
      have b1 := PyProof.Rows.intBits_le (a := (prs (opU ou) r k).getLastD 0) (k := 4) (by lia)
      have b2 := PyProof.Rows.intBits_le (a := (prs (opU ou) r k).headD 0) (k := 4) (by lia)
      exact ⟨Nat.le_trans (PySem.intBits_mul_le h1 b1) (by lia), Nat.le_trans (PySem.intBits_mul_le h2 b2) (by lia)⟩
theorem wt_bits {c ou : Nat} {r : Str} {x : Int} (R : RowIs c ou r) (hx : x.natAbs ≤ 10 ^ 60 + 2) : ∀ k, k ≤ 2 * c → Builtin.Int.intBits (wtU (opU ou) r x k) ≤ 300 * k + 2 := by
  have hxb : Builtin.Int.intBits x ≤ 200 := PyProof.Rows.intBits_le (Nat.lt_of_le_of_lt hx (by decide +kernel))
  intro k
  induction k with
  | zero => intro _; exact PyProof.Rows.intBits_le (a := 1) (by decide)
  | succ k ih =>
    intro hk
    have h1 := ih (by lia)
    unfold wtU
    cases ho : isOpen r k with
    | false => rw [if_neg Bool.false_ne_true]; lia
    | true =>
      rw [if_pos rfl]
      obtain ⟨l1, l2⟩ := R.last_in (k := k) (by lia) ho
      have b1 := PyProof.Rows.intBits_le (a := (prs (opU ou) r k).getLastD 0) (k := 4) (by lia)
      have b3 := PySem.intBits_add_le (PySem.intBits_mul_le hxb b1) (PyProof.Rows.intBits_le (a := 1) (k := 1) (by decide))
      exact Nat.le_trans (PySem.intBits_mul_le h1 b3) (by have : max (200 + 4) 1 + 1 = 205 := by decide
                                                          lia)
end Mine
end
-- part M42
section
set_option maxRecDepth 100000
set_option linter.unusedVariables false
set_option maxHeartbeats 4000000
namespace Mine
open PyProof PySem PySem.Calls PyProof.Rows PySem.W PySem.W.X

section
variable {w : World} {A : Around} {E : Value → Shared → Prop} {h h' : Heap} {gn : Array GenState} {d : Drawn} {t : Nat} {os : OsState} {g : Heap} {L a : Addr} {i : Nat} {vals : List (Option Value)} {own : List (Addr × Obj)}
  {fa : Nat → Addr} {mg mb : Str → Option Value} {n : Str} {cd : Value} {pos : Pos} {sco : Scope} {env : Env} {ns : List Str} {c8 P8 c9 P9 : Addr} {τ8 τ9 rest : List (Addr × Obj)}
theorem at_for {c ou : Nat} {r : Str} {x : Int} {D NA HA : Addr} {tc to tx tr u1 u2 u3 t8 t9 t10 t11 t12 : Tok} {v5 v6 v18 v19 v20 v21 : Option Value} {T G : Int} {Q : Flow → Shared → Prop}
    (B : Base fa mg mb g) (hA : A.handled = none) (hroom : A.depth + 60 < recursionLimit) (hu : A.units + 100 < cLine) (hto : 0 < to ∧ to < t) (hc : c = 3 ∨ c = 4) (hou : ou < 4) (R : RowIs c ou r) (hx : x.natAbs ≤ 10 ^ 60 + 2)
    (S : St g L (lc 21) (V13 D c tc ou to x tx NA v5 v6 HA t8 t9 t10 T t11 G t12 ++ [some (.str r tr), some (.bool true), some (.int 1 u1), some (.int 1 u2), some (.int 1 u3), v18, v19, v20, v21, none, none, none]) own h)
    (kk : ∀ h' t' gn' u1 u2 u3 v18 v19, t ≤ t' → GX gn gn' → St g L (lc 21) (V13 D c tc ou to x tx NA v5 v6 HA t8 t9 t10 T t11 G t12 ++ [some (.str r tr), some (.bool true),
        some (.int (lsU (opU ou) r (2 * c)).1 u1), some (.int (lsU (opU ou) r (2 * c)).2 u2), some (.int (wtU (opU ou) r x (2 * c)) u3), v18, v19, v20, v21, none, none, none]) own h' →
        wpAny (model pg w) A (execs (rowElse.drop 5) (envOfC (nm 21) (sc 21) L a cd)) Q (fun _ _ => False) ⟨h', gn', d, t', os⟩) :
    wpAny (model pg w) A (execs (rowElse.drop 4) (envOfC (nm 21) (sc 21) L a cd)) Q (fun _ _ => False) ⟨h, gn, d, t, os⟩ := by
  refine wpAny_execs_cons (wpAny_with_toks (n := t) (Nat.le_refl _) (wpAny_For (Call_ (r_bt S B g21_range b_range (cw_type (acons ?_))))))
  refine wpAny_with_toks (n := t) (Nat.le_refl _) (wpAny_BinOp (c_int fun t₂ => r_loc S v21_count rfl (o_mul (.of_left (by decide)) fun u₄ t₃ ht₃ => anil ?_)))
  refine wpAny_with_toks (n := t) ht₃ (o_range1 fun h₂ rr u v t₄ hk₂ hz₂ hr₂ hR ht₄ => ?_)
  have hrs : Builtin.Range.rangeSize 0 (2 * (c : Int)) 1 = ((2 * c : Nat) : Int) := by rw [rangeSize_nat]; lia
  refine for_range3 hA (S.keeps hk₂) hR (small_one (by lia) (by lia) (by lia) (by lia)) hrs v21_at (fun k vals own' => own' = own ∧ ∃ u1 u2 u3 v18 v19, vals = V13 D c tc ou to x tx NA v5 v6 HA t8 t9 t10 T t11 G t12 ++ [some (.str r tr), some (.bool true),
        some (.int (lsU (opU ou) r k).1 u1), some (.int (lsU (opU ou) r k).2 u2), some (.int (wtU (opU ou) r x k) u3), v18, v19, v20, v21, none, none, none]) ?_ ?_ ⟨rfl, _, _, _, _, _, rfl⟩
  · intro k tk vals own' g₂ h₃ t₅ gn₁ hk hle hpat10 hg₂ gx S₃
    refine abs_q fun Q1 hQ1 => ?_
    obtain ⟨rfl, u1, u2, u3, v18, v19, rfl⟩ := hpat10
    have ei : (0 + (k : Int) * 1) = ((k : Nat) : Int) := by lia
    rw [ei] at S₃
    obtain ⟨b1, b2⟩ := ls_bits R k (by lia)
    have b3 := wt_bits (x := x) R hx k (by lia)
    refine at_turn (B.keeps hg₂) hA hroom hu ⟨hto.1, Nat.lt_of_lt_of_le hto.2 (Nat.le_trans ht₄ hle)⟩ hc hou R hk b1 b2 b3 hx S₃ fun h₄ t₆ gn₂ u1 u2 u3 v19 gx₂ S₄ => ?_
    refine hQ1 _ _ (.inl ⟨rfl, _, _, _, _, _, rfl, gx.trans gx₂, S₄, rfl, u1, u2, u3, some (.int (k : Int) tk), v19, ?_⟩)
    have e1 : lsU (opU ou) r (k + 1) = if isOpen r k then ((lsU (opU ou) r k).1 * (prs (opU ou) r k).getLastD 0, (lsU (opU ou) r k).2 * (prs (opU ou) r k).headD 0) else lsU (opU ou) r k := rfl
    have e2 : wtU (opU ou) r x (k + 1) = if isOpen r k then wtU (opU ou) r x k * (x * (prs (opU ou) r k).getLastD 0 + 1) else wtU (opU ou) r x k := rfl
    rw [e1, e2]
    cases isOpen r k <;> rfl
  · rintro vals own' h₃ t₅ gn₁ ⟨rfl, u1, u2, u3, v18, v19, rfl⟩ hle gx S₃ ht
    exact kk h₃ t₅ gn₁ u1 u2 u3 v18 v19 ht gx S₃
end
end Mine
end
-- part M43
section
set_option maxRecDepth 100000
set_option linter.unusedVariables false
set_option maxHeartbeats 4000000
namespace Mine
open PyProof PySem PySem.Calls PyProof.Rows PySem.W PySem.W.X

section
variable {w : World} {A : Around} {E : Value → Shared → Prop} {h h' : Heap} {gn : Array GenState} {d : Drawn} {t : Nat} {os : OsState} {g : Heap} {L a : Addr} {i : Nat} {vals : List (Option Value)} {own : List (Addr × Obj)}
  {fa : Nat → Addr} {mg mb : Str → Option Value} {n : Str} {cd : Value} {pos : Pos} {sco : Scope} {env : Env} {ns : List Str} {c8 P8 c9 P9 : Addr} {τ8 τ9 rest : List (Addr × Obj)}
theorem idm_st {R : Result → Shared → Prop} {x b : Int} {tx tb : Tok} (M : DM fa mg mb g c8 P8 c9 P9) (T0 : TT P8 P9 τ8 τ9) (S : St g L ns vals (τ8 ++ (τ9 ++ rest)) h)
    (hA : A.handled = none) (hroom : A.depth + 50 < recursionLimit) (hxb : Builtin.Int.intBits x ≤ 8000) (hb0 : b ≠ 0) (hbb : Builtin.Int.intBits b ≤ 1000)
    (k : ∀ h' t' T u v τ8' τ9', TT P8 P9 τ8' τ9' → St g L ns vals ((T, tup (.int (x.fdiv b) u) (.int (x.fmod b) v)) :: (τ8' ++ (τ9' ++ rest))) h' → R (.ok (.ret (.ref T))) ⟨h', gn, d, t', os⟩) :
    codeAny (model pg w) A (.call (.ref (fa 11)) ⟨[.int x tx, .int b tb], []⟩) R ⟨h, gn, d, t, os⟩ := by
  obtain ⟨oL, OO, back⟩ := S.ow
  refine idm_spec (rest := rest ++ [(L, oL)]) M T0 (by simpa [List.append_assoc] using OO) hA hroom hxb hb0 hbb fun h' t' T u v τ8' τ9' O' T' => ?_
  exact k h' t' T u v τ8' τ9' T' (back ((T, tup (.int (x.fdiv b) u) (.int (x.fmod b) v)) :: (τ8' ++ (τ9' ++ rest))) h' (by simpa [List.append_assoc] using O'))
theorem o_ne_tup {T T2 : Addr} {x1 x2 y1 y2 : Int} {u1 u2 v1 v2 : Tok} {Q : Value → Shared → Prop} (h1 : h.get? T = some (tup (.int x1 u1) (.int x2 u2))) (h2 : h.get? T2 = some (tup (.int y1 v1) (.int y2 v2))) (hu : A.units < cLine) (e1 : x1 = y1) (e2 : x2 = y2)
    (c : Q (.bool false) ⟨h, gn, d, t, os⟩) : wpAny (model pg w) A (compareOp .NotEq (.ref T) (.ref T2)) Q E ⟨h, gn, d, t, os⟩ := by
  subst e1 e2
  refine PySem.SeqAt.RcNeAt.tuples (s := ⟨h, gn, d, t, os⟩) (e := fun _ => true) ⟨_, h1, rfl, _, rfl⟩ ⟨_, h2, rfl, _, rfl⟩ hu (fun j q1 q2 => ?_) pg w _ _ ?_
  · have q1' : j < 2 := q1
    match j, q1' with
    | 0, _ =>
      have := PySem.SeqAt.EqAt.int_int (A := A.in1) (s := ⟨h, gn, d, t, os⟩) x1 u1 x1 v1
      rwa [beq_self_eq_true] at this
    | 1, _ =>
      have := PySem.SeqAt.EqAt.int_int (A := A.in1) (s := ⟨h, gn, d, t, os⟩) x2 u2 x2 v2
      rwa [beq_self_eq_true] at this
  · exact c
end
end Mine
end
-- part M44
section
set_option maxRecDepth 100000
set_option linter.unusedVariables false
set_option maxHeartbeats 4000000
namespace Mine
open PyProof PySem PySem.Calls PyProof.Rows PySem.W PySem.W.X

theorem countIn_strs (k : Str) : ∀ ys : List Str, Spec.countIn (.str k) (ys.map PyData.str) = ((ys.count k : Nat) : Int) := by
  intro ys
  induction ys with
  | nil => rfl
  | cons y r ih =>
    show (if Spec.same (.str y) (.str k) then 1 else 0) + Spec.countIn (.str k) (r.map PyData.str) = _
    rw [ih, show Spec.same (.str y) (.str k) = (y == k) from rfl, List.count_cons]
    cases (y == k) <;> simp <;> lia
section
variable {w : World} {A : Around} {E : Value → Shared → Prop} {h h' : Heap} {gn : Array GenState} {d : Drawn} {t : Nat} {os : OsState} {g : Heap} {L a : Addr} {i : Nat} {vals : List (Option Value)} {own : List (Addr × Obj)}
  {fa : Nat → Addr} {mg mb : Str → Option Value} {n : Str} {cd : Value} {pos : Pos} {sco : Scope} {env : Env} {ns : List Str} {c8 P8 c9 P9 : Addr} {τ8 τ9 rest : List (Addr × Obj)}
theorem o_count_list {l : Addr} {items : Array Value} {ys : List Str} {k : Str} {tk : Tok} {Q : Value → Shared → Prop} (hl : h.IsList l items) (hi : StrsAre items.toList ys) (c : ∀ tk t', Q (.int ((ys.count k : Nat) : Int) tk) ⟨h, gn, d, t', os⟩) :
    wpAny (model pg w) A (call (.builtin "list.count") [.ref l, .str k tk]) Q E ⟨h, gn, d, t, os⟩ := by
  refine count_list_strs (s := ⟨h, gn, d, t, os⟩) (vs := items.toList) (by simpa using hl) hi ?_
  rw [countIn_strs]
  exact c _ _
theorem gm_count {l : Addr} {items : Array Value} {pl : Sem Bool} {Q : Value × List Value → Shared → Prop} (hl : h.get? l = some (lst items i)) (c : Q (.builtin "list.count", [.ref l]) ⟨h, gn, d, t, os⟩) :
    wpAny (model pg w) A (getMethod (.ref l) "count" pl) Q E ⟨h, gn, d, t, os⟩ :=
  getMethod_list_of (s := ⟨h, gn, d, t, os⟩) (items := items) PySem.F.slot_list_count PySem.F.type_list_count (isList_of hl) ⟨_, hl, rfl⟩ c
theorem row_tail {c ou hn : Nat} {r : Str} {x l s wt : Int} {D NA HA : Addr} {hits : Array Value} {hs : List Str} {tc to tx tr u1 u2 u3 t8 t9 t10 t11 t12 : Tok} {v5 v6 v18 v19 v20 v21 : Option Value} {T G : Int} {Q : Flow → Shared → Prop}
    (M : DM fa mg mb g c8 P8 c9 P9) (T0 : TT P8 P9 τ8 τ9) (hA : A.handled = none) (hroom : A.depth + 60 < recursionLimit) (hu : A.units + 100 < cLine)
    (hH : g.get? HA = some (lst hits hn)) (hhs : StrsAre hits.toList hs) (hel : Builtin.Int.intBits (everyU c) ≤ 64) (hl0 : l ≠ 0) (hs0 : s ≠ 0) (hl : Builtin.Int.intBits l ≤ 1000) (hs1 : Builtin.Int.intBits s ≤ 1000)
    (e1 : (everyU c).fdiv l = (hs.count r : Nat)) (e2 : (everyU c).fmod l = 0) (e3 : (everyU c).fmod s = 0) (hcs : Builtin.Int.intBits ((hs.count r : Nat) : Int) ≤ 64)
    (S : St g L (lc 21) (V13 D c tc ou to x tx NA v5 v6 HA t8 t9 t10 T t11 G t12 ++ [some (.str r tr), some (.bool true), some (.int l u1), some (.int s u2), some (.int wt u3), v18, v19, v20, v21, none, none, none]) (τ8 ++ (τ9 ++ [])) h)
    (fin : ∀ h' t' gn' t11 t12 v20 v21 τ8' τ9', TT P8 P9 τ8' τ9' → GX gn gn' → St g L (lc 21) (V13 D c tc ou to x tx NA v5 v6 HA t8 t9 t10 (T + ((hs.count r : Nat) : Int) * wt) t11 (G + (everyU c).fdiv s) t12 ++ [some (.str r tr), some (.bool true), some (.int l u1), some (.int s u2), some (.int wt u3), v18, v19, v20, v21, none, none, none]) (τ8' ++ (τ9' ++ [])) h' → Q .next ⟨h', gn', d, t', os⟩) :
    wpAny (model pg w) A (execs (rowElse.drop 5) (envOfC (nm 21) (sc 21) L a cd)) Q (fun _ _ => False) ⟨h, gn, d, t, os⟩ := by
  refine wpAny_execs_cons (wpAny_If (wpAny_isTrue_Compare1 (Call_ (r_fn S M.base g21_int_divmod (by decide) ?_))))
  refine call_fn M.base (by decide) (acons (r_loc S v21_every rfl (acons (r_loc S v21_longest rfl (anil ⟨S.keep, wpAny_call ?_⟩)))))
  refine idm_st M T0 S hA (by lia) (by lia) hl0 hl fun h₂ t₂ TA u v τ8' τ9' T1 S₂ => ?_
  refine Tuple_ (acons (MethodCall_ (r_loc S₂ v21_hung rfl (gm_count (S₂.keep _ _ hH) (cw_meth (acons (r_loc S₂ v21_row rfl (anil ?_))))))))
  refine o_count_list (isList_of (S₂.keep _ _ hH)) hhs fun u₁ t₃ => acons (c_int fun t₄ => anil (new_tuple rfl ?_))
  have S₃ := S₂.push (tup (.int ((hs.count r : Nat) : Int) u₁) (.int 0 t₃))
  refine o_ne_tup (S₃.isOwn _ (.tail _ (.head _))).1 (Heap.get?_push_size _ rfl) (by lia) e1 e2 (wpAny_truthy_bool ?_)
  rw [if_neg Bool.false_ne_true]
  refine wpAny_execs_nil ?_
  have S₄ := S₃.drop (own' := τ8' ++ (τ9' ++ [])) (.cons _ (.cons _ (.refl _)))
  refine wpAny_execs_cons (Assign_Tuple (Call_ (r_fn S₄ M.base g21_int_divmod (by decide) ?_)))
  refine call_fn M.base (by decide) (acons (r_loc S₄ v21_every rfl (acons (r_loc S₄ v21_shortest rfl (anil ⟨S₄.keep, wpAny_call ?_⟩)))))
  refine idm_st M T1 S₄ hA (by lia) (by lia) hs0 hs1 fun h₅ t₅ TB u' v' τ8'' τ9'' T2 S₅ => ?_
  refine asg2 hA S₅ ⟨_, (S₅.isOwn _ (.head _)).1, rfl, _, rfl⟩ v21_ways v21_rest fun h₆ t₆ S₆ _ => ?_
  have S₆ := S₆.drop (own' := τ8'' ++ (τ9'' ++ [])) (.cons _ (.refl _))
  refine wpAny_execs_cons (wpAny_If (wpAny_isTrue_Compare1 (r_loc S₆ v21_rest rfl (c_int fun t₇ => o_ne (wpAny_truthy_bool ?_)))))
  rw [e3, show ((0 : Int) != 0) = false from rfl, if_neg Bool.false_ne_true]
  refine wpAny_execs_nil ?_
  refine wpAny_execs_cons (wpAny_AugAssign_Name (r_ldn S₆ v21_total rfl ?_))
  refine wpAny_BinOp (MethodCall_ (r_loc S₆ v21_hung rfl (gm_count (S₆.keep _ _ hH) (cw_meth (acons (r_loc S₆ v21_row rfl (anil ?_)))))))
  refine o_count_list (isList_of (S₆.keep _ _ hH)) hhs fun u₂ t₈ => r_loc S₆ v21_weight rfl (o_mul (.of_left hcs) fun u₃ t₉ => o_iadd fun u₄ t₁₀ => ?_)
  refine r_st S₆ v21_total fun h₇ t₁₁ S₇ _ => ?_
  refine wpAny_execs_cons (wpAny_AugAssign_Name (r_ldn S₇ v21_grown rfl (r_loc S₇ v21_ways rfl (o_iadd fun u₅ t₁₂ => r_st S₇ v21_grown fun h₈ t₁₃ S₈ _ => ?_))))
  repeat refine wpAny_execs_nil ?_
  exact fin _ _ _ _ _ _ _ τ8'' τ9'' T2 id S₈
end
end Mine
end
-- part M45
section
set_option maxRecDepth 100000
set_option linter.unusedVariables false
set_option maxHeartbeats 4000000
namespace Mine
open PyProof PySem PySem.Calls PyProof.Rows PySem.W PySem.W.X

/-- what a row adds to total and grown -/
noncomputable def rT (c ou : Nat) (x : Int) (r : Str) : Int := if (hsU c).contains r then ((hsU c).count r : Int) * wtU (opU ou) r x (2 * c) else 0
noncomputable def rG (c ou : Nat) (r : Str) : Int := if (hsU c).contains r then (everyU c).fdiv (lsU (opU ou) r (2 * c)).2 else 0
theorem tot_snoc (c ou : Nat) (x : Int) (r : Str) : ∀ rs, totU c ou x (rs ++ [r]) = totU c ou x rs + rT c ou x r := by
  intro rs
  induction rs with
  | nil => show rT c ou x r + 0 = 0 + rT c ou x r; lia
  | cons q rs ih =>
    show rT c ou x q + totU c ou x (rs ++ [r]) = rT c ou x q + totU c ou x rs + rT c ou x r
    rw [ih]; lia
theorem gro_snoc (c ou : Nat) (r : Str) : ∀ rs, groU c ou (rs ++ [r]) = groU c ou rs + rG c ou r := by
  intro rs
  induction rs with
  | nil => show rG c ou r + 0 = 0 + rG c ou r; lia
  | cons q rs ih =>
    show rG c ou q + groU c ou (rs ++ [r]) = rG c ou q + groU c ou rs + rG c ou r
    rw [ih]; lia
theorem rowOk_is {c ou : Nat} {r : Str} (h : rowOk c ou r = true) : r.length = 2 * c ∧ checkP (Txt.replace r "(" (opU ou)) = (hsU c).contains r ∧ (Txt.replace r "(" (opU ou)).length ≤ 1000 ∧
    ((hsU c).contains r = true → RowIs c ou r ∧ (lsU (opU ou) r (2 * c)).1 ≠ 0 ∧ (lsU (opU ou) r (2 * c)).2 ≠ 0 ∧ (lsU (opU ou) r (2 * c)).1.natAbs ≤ 100000 ∧ (lsU (opU ou) r (2 * c)).2.natAbs ≤ 100000 ∧
      (everyU c).fdiv (lsU (opU ou) r (2 * c)).1 = ((hsU c).count r : Nat) ∧ (everyU c).fmod (lsU (opU ou) r (2 * c)).1 = 0 ∧ (everyU c).fmod (lsU (opU ou) r (2 * c)).2 = 0) := by
  unfold rowOk at h
  rw [Bool.and_eq_true, Bool.and_eq_true, Bool.and_eq_true, beq_iff_eq, beq_iff_eq, decide_eq_true_eq] at h
  obtain ⟨⟨⟨h1, h2⟩, h3⟩, h4⟩ := h
  refine ⟨h1, h2, h3, fun hc => ?_⟩
  rw [hc] at h4
  simp only [Bool.not_true, Bool.false_or, Bool.and_eq_true, decide_eq_true_eq] at h4
  obtain ⟨⟨⟨⟨⟨⟨⟨h5, h6⟩, h7⟩, h8⟩, h9⟩, h10⟩, h11⟩, h12⟩ := h4
  have h5' : ∀ k, k < 2 * c → isOpen r k = true → prs (opU ou) r k ≠ [] ∧ (∀ p ∈ prs (opU ou) r k, 1 ≤ p ∧ p ≤ 8) ∧ ∀ j, j < mAt (2 * c) k → (piece r (opU ou) (k : Int) ((k : Int) + 2 + (j : Int) * 2)).length ≤ 1000 := fun k hk ho => by
    have := List.all_eq_true.mp h5 k (List.mem_range.mpr hk)
    rw [ho] at this
    simp only [Bool.not_true, Bool.false_or, Bool.and_eq_true, decide_eq_true_eq] at this
    obtain ⟨⟨a1, a2⟩, a3⟩ := this
    exact ⟨a1, fun p hp => by simpa using List.all_eq_true.mp a2 p hp, fun j hj => by simpa using List.all_eq_true.mp a3 j (List.mem_range.mpr hj)⟩
  exact ⟨⟨h1, fun k hk ho => (h5' k hk ho).1, fun k hk ho => (h5' k hk ho).2.1, fun k hk ho => (h5' k hk ho).2.2⟩, h6, h7, h8, h9, h10, h11, h12⟩
theorem hs_small : ∀ c, c = 3 ∨ c = 4 → (hsU c).length ≤ 24 ∧ Builtin.Int.intBits (everyU c) ≤ 64 := by
  rintro c (rfl | rfl)
  · decide +kernel
  · decide +kernel

section
variable {w : World} {A : Around} {E : Value → Shared → Prop} {h h' : Heap} {gn : Array GenState} {d : Drawn} {t : Nat} {os : OsState} {g : Heap} {L a : Addr} {i : Nat} {vals : List (Option Value)} {own : List (Addr × Obj)}
  {fa : Nat → Addr} {mg mb : Str → Option Value} {n : Str} {cd : Value} {pos : Pos} {sco : Scope} {env : Env} {ns : List Str} {c8 P8 c9 P9 : Addr} {τ8 τ9 rest : List (Addr × Obj)}
theorem row_turn {c ou hn : Nat} {r : Str} {x : Int} {D NA HA : Addr} {hits : Array Value} {tc to tx tr t8 t9 t10 t11 t12 : Tok} {v5 v6 v14 v15 v16 v17 v18 v19 v20 v21 : Option Value} {T G : Int} {Q : Flow → Shared → Prop}
    (M : DM fa mg mb g c8 P8 c9 P9) (T0 : TT P8 P9 τ8 τ9) (hA : A.handled = none) (hroom : A.depth + 60 < recursionLimit) (hu : A.units + 100 < cLine) (hto : 0 < to ∧ to < t) (hc : c = 3 ∨ c = 4) (hou : ou < 4) (hx : x.natAbs ≤ 10 ^ 60 + 2)
    (hH : g.get? HA = some (lst hits hn)) (hhs : StrsAre hits.toList (hsU c)) (hr : rowOk c ou r = true)
    (S : St g L (lc 21) (V13 D c tc ou to x tx NA v5 v6 HA t8 t9 t10 T t11 G t12 ++ [some (.str r tr), v14, v15, v16, v17, v18, v19, v20, v21, none, none, none]) (τ8 ++ (τ9 ++ [])) h)
    (fin : ∀ h' t' gn' t11 t12 v14 v15 v16 v17 v18 v19 v20 v21 τ8' τ9', TT P8 P9 τ8' τ9' → GX gn gn' → St g L (lc 21) (V13 D c tc ou to x tx NA v5 v6 HA t8 t9 t10 (T + rT c ou x r) t11 (G + rG c ou r) t12 ++ [some (.str r tr), v14, v15, v16, v17, v18, v19, v20, v21, none, none, none]) (τ8' ++ (τ9' ++ [])) h' → Q .next ⟨h', gn', d, t', os⟩) :
    wpAny (model pg w) A (execs rowBody (envOfC (nm 21) (sc 21) L a cd)) Q (fun _ _ => False) ⟨h, gn, d, t, os⟩ := by
  obtain ⟨r1, r2, r3, r4⟩ := rowOk_is hr
  obtain ⟨hsl, hel⟩ := hs_small c hc
  refine wpAny_execs_cons (wpAny_with_toks (n := t) (Nat.le_refl _) (wpAny_Assign_Name (Call_ (r_fn S M.base g21__check_parenthesis (by decide) ?_))))
  refine call_fn M.base (by decide) (acons (MethodCall_ (r_loc S v21_row rfl (GM.replace (cw_meth (acons (c_strK (acons (r_loc S v21_opening rfl (anil ?_))))))))))
  refine o_replace (M.base.keeps S.keep).nb (Nat.ne_of_gt (Nat.lt_trans hto.1 hto.2)) (Nat.ne_of_gt hto.1) (Nat.ne_of_gt hto.2) (rep_fits (by lia) (op_len hou)) fun tk t₂ => anil ⟨S.keep, wpAny_call (check_spec (M.base.keeps S.keep) hA (by lia) r3 fun h₂ t₃ gn₂ hk₂ gx₂ => ?_)⟩
  refine r_st (S.keeps hk₂) v21_told fun h₃ t₄ S₃ _ ht₄ => ?_
  have S₃ : St g L (lc 21) (V13 D c tc ou to x tx NA v5 v6 HA t8 t9 t10 T t11 G t12 ++ [some (.str r tr), some (.bool ((hsU c).contains r)), v15, v16, v17, v18, v19, v20, v21, none, none, none]) (τ8 ++ (τ9 ++ [])) h₃ := r2 ▸ S₃
  refine wpAny_execs_cons (wpAny_If (wpAny_isTrue_Compare1 (r_loc S₃ v21_row rfl (r_loc S₃ v21_hung rfl (notin_list_strs (vs := hits.toList) (by simpa using isList_of (S₃.keep _ _ hH)) hhs (wpAny_truthy_bool ?_))))))
  rw [List.any_beq']
  unfold rT rG at fin
  cases hin : (hsU c).contains r with
  | false =>
    rw [hin] at S₃ fin
    simp only [Bool.false_eq_true, if_false, Int.add_zero] at fin
    simp only [Bool.not_false, if_true]
    refine wpAny_execs_cons (wpAny_If (wpAny_isTrue_Compare1 (r_loc S₃ v21_told rfl (c_bool (wpAny_isNot_self (by rfl) (wpAny_truthy_bool ?_))))))
    rw [if_neg Bool.false_ne_true]
    repeat refine wpAny_execs_nil ?_
    exact fin _ _ _ _ _ _ _ _ _ _ _ _ _ τ8 τ9 T0 gx₂ S₃
  | true =>
    rw [hin] at S₃ fin
    simp only [if_true] at fin
    simp only [Bool.not_true, Bool.false_eq_true, if_false]
    obtain ⟨R, l0, s0, l1, s1, e1, e2, e3⟩ := r4 hin
    refine wpAny_execs_cons (wpAny_with_toks (n := t) ht₄ (wpAny_If (wpAny_isTrue_Compare1 (r_loc S₃ v21_told rfl (c_bool (wpAny_isNot_self (by rfl) (wpAny_truthy_bool ?_)))))))
    rw [if_neg Bool.false_ne_true]
    refine wpAny_execs_nil fun ht₅ => ?_
    refine wpAny_execs_cons (wpAny_with_toks (n := t) ht₅ (wpAny_Assign_Name (c_int fun t₅ => r_st S₃ v21_longest fun h₆ t₆ S₆ _ ht₆ => ?_)))
    refine wpAny_execs_cons (wpAny_with_toks (n := t) ht₆ (wpAny_Assign_Name (c_int fun t₇ => r_st S₆ v21_shortest fun h₈ t₈' S₈ _ ht₈ => ?_)))
    refine wpAny_execs_cons (wpAny_with_toks (n := t) ht₈ (wpAny_Assign_Name (c_int fun t₉' => r_st S₈ v21_weight fun h₁₀ t₁₀' S₁₀ _ ht₁₀ => ?_)))
    refine at_for M.base hA hroom hu ⟨hto.1, Nat.lt_of_lt_of_le hto.2 ht₁₀⟩ hc hou R hx S₁₀ fun h₁₁ t₁₁' gn₃ u1 u2 u3 v18 v19 ht₁₁ gx₃ S₁₁ => ?_
    refine row_tail M T0 hA hroom hu hH hhs hel l0 s0 (Nat.le_trans (PyProof.Rows.intBits_le (k := 20) (by lia)) (by decide)) (Nat.le_trans (PyProof.Rows.intBits_le (k := 20) (by lia)) (by decide)) e1 e2 e3 (PySem.intBits_le_64 ?_ ?_) S₁₁ fun h₁₂ t₁₂' gn₄ t11 t12 v20 v21 τ8' τ9' T1 gx₄ S₁₂ => ?_
    · have := List.count_le_length (a := r) (l := hsU c); lia
    · have := List.count_le_length (a := r) (l := hsU c); lia
    repeat refine wpAny_execs_nil ?_
    exact fin _ _ _ _ _ _ _ _ _ _ _ _ _ τ8' τ9' T1 (gx₂.trans (gx₃.trans gx₄)) S₁₂
end
end Mine
end
-- part M46
section
set_option maxRecDepth 100000
set_option linter.unusedVariables false
set_option maxHeartbeats 4000000
namespace Mine
open PyProof PySem PySem.Calls PyProof.Rows PySem.W PySem.W.X

theorem rows_all {c ou : Nat} (hc : c = 3 ∨ c = 4) (hou : ou < 4) : ∀ r ∈ rowsOf c, rowOk c ou r = true := by
  have h := rows_ok ou hou
  rcases hc with rfl | rfl
  · exact List.all_eq_true.mp h.1
  · exact List.all_eq_true.mp h.2

section
variable {w : World} {A : Around} {E : Value → Shared → Prop} {h h' : Heap} {gn : Array GenState} {d : Drawn} {t : Nat} {os : OsState} {g : Heap} {L a : Addr} {i : Nat} {vals : List (Option Value)} {own : List (Addr × Obj)}
  {fa : Nat → Addr} {mg mb : Str → Option Value} {n : Str} {cd : Value} {pos : Pos} {sco : Scope} {env : Env} {ns : List Str} {c8 P8 c9 P9 : Addr} {τ8 τ9 rest : List (Addr × Obj)}
theorem rows_for {c ou hn : Nat} {x : Int} {D NA HA : Addr} {hits : Array Value} {tc to tx t8 t9 t10 t11 t12 : Tok} {v5 v6 : Option Value} {Q : Flow → Shared → Prop}
    (M : DM fa mg mb g c8 P8 c9 P9) (T0 : TT P8 P9 τ8 τ9) (hA : A.handled = none) (hroom : A.depth + 60 < recursionLimit) (hu : A.units + 100 < cLine) (hto : 0 < to ∧ to < t) (hc : c = 3 ∨ c = 4) (hou : ou < 4) (hx : x.natAbs ≤ 10 ^ 60 + 2)
    (hH : g.get? HA = some (lst hits hn)) (hhs : StrsAre hits.toList (hsU c))
    (S : St g L (lc 21) (V13 D c tc ou to x tx NA v5 v6 HA t8 t9 t10 0 t11 0 t12 ++ List.replicate 12 none) (τ8 ++ (τ9 ++ [])) h)
    (kk : ∀ h' t' gn' t11 t12 v13 v14 v15 v16 v17 v18 v19 v20 v21 τ8' τ9', TT P8 P9 τ8' τ9' → GX gn gn' →
        St g L (lc 21) (V13 D c tc ou to x tx NA v5 v6 HA t8 t9 t10 (totU c ou x (rowsOf c)) t11 (groU c ou (rowsOf c)) t12 ++ [v13, v14, v15, v16, v17, v18, v19, v20, v21, none, none, none]) (τ8' ++ (τ9' ++ [])) h' →
        wpAny (model pg w) A (execs (tl 15) (envOfC (nm 21) (sc 21) L a cd)) Q (fun _ _ => False) ⟨h', gn', d, t', os⟩) :
    wpAny (model pg w) A (execs (tl 14) (envOfC (nm 21) (sc 21) L a cd)) Q (fun _ _ => False) ⟨h, gn, d, t, os⟩ := by
  refine wpAny_execs_cons (wpAny_For ?_)
  refine Call_ (r_fn S M.base g21__law_rows (by decide) ?_)
  refine wpAny_with_toks (n := t) (Nat.le_refl _) (call_fn M.base (by decide) (acons (r_loc S v21_count rfl (anil ⟨S.keep, wpAny_call ?_⟩))))
  have hm : Builtin.Range.rangeSize 0 (2 * (c : Int) - 1) 1 = ((2 * c - 1 : Nat) : Int) := by
    have : 2 * (c : Int) - 1 = ((2 * c - 1 : Nat) : Int) := by lia
    rw [this, rangeSize_nat]; lia
  refine rows_spec (m := 2 * c - 1) (M.base.keeps S.keep) hA (by lia) (by lia) (small_one (by lia) (by lia) (by lia) (by lia)) hm (by lia) fun h₂ t₂ PA items nn hk₂ hsz hPA hrs ht₂ => ?_
  have hrs' : StrsAre items.toList (rowsOf c) := hrs
  have hlen : items.size = (rowsOf c).length := by have := strs_len hrs'; simpa using this
  refine for_list3 hA (S.keeps hk₂) (isList_of hPA) (Nat.ne_of_gt (Nat.lt_of_lt_of_le S.isNs.lt hsz)) (fun p hp => Nat.ne_of_lt (Nat.lt_of_lt_of_le (S.own_lt hp) hsz)) v21_row
    (fun k vals own' => ∃ t11 t12 v13 v14 v15 v16 v17 v18 v19 v20 v21 τ8' τ9', TT P8 P9 τ8' τ9' ∧ own' = τ8' ++ (τ9' ++ []) ∧
      vals = V13 D c tc ou to x tx NA v5 v6 HA t8 t9 t10 (totU c ou x ((rowsOf c).take k)) t11 (groU c ou ((rowsOf c).take k)) t12 ++ [v13, v14, v15, v16, v17, v18, v19, v20, v21, none, none, none]) ?_ ?_
    ⟨t11, t12, none, none, none, none, none, none, none, none, none, τ8, τ9, T0, rfl, rfl⟩
  · intro k v vals own' g₂ h₃ t₃ gn₁ hk hle hpat10 hg₂ gx S₃
    refine abs_q fun Q1 hQ1 => ?_
    obtain ⟨t11, t12, v13, v14, v15, v16, v17, v18, v19, v20, v21, τ8', τ9', T1, rfl, rfl⟩ := hpat10
    obtain ⟨r, tr, rfl, hkr⟩ := strs_at hrs' (k := k) (v := v) (by simpa using hk)
    have e : (rowsOf c).take (k + 1) = (rowsOf c).take k ++ [r] := by rw [List.take_add_one, hkr]; rfl
    refine row_turn (M.keeps hg₂) T1 hA hroom hu ⟨hto.1, Nat.lt_of_lt_of_le hto.2 (Nat.le_trans ht₂ hle)⟩ hc hou hx (hg₂ _ _ hH) hhs (rows_all hc hou r (List.mem_of_getElem? hkr)) S₃ fun h₄ t₄ gn₂ t11 t12 v14 v15 v16 v17 v18 v19 v20 v21 τ8'' τ9'' T2 gx₂ S₄ => ?_
    rw [← tot_snoc, ← gro_snoc, ← e] at S₄
    exact hQ1 _ _ (.inl ⟨rfl, _, _, _, _, _, rfl, gx.trans gx₂, S₄, t11, t12, _, v14, v15, v16, v17, v18, v19, v20, v21, τ8'', τ9'', T2, rfl, rfl⟩)
  · rintro vals own' h₃ t₃ gn₁ ⟨t11, t12, v13, v14, v15, v16, v17, v18, v19, v20, v21, τ8', τ9', T1, rfl, rfl⟩ hle gx S₃
    rw [List.take_of_length_le (by lia)] at S₃
    exact kk h₃ t₃ gn₁ t11 t12 v13 v14 v15 v16 v17 v18 v19 v20 v21 τ8' τ9' T1 gx S₃
end
end Mine
end
-- part M47
section
set_option maxRecDepth 100000
set_option linter.unusedVariables false
set_option maxHeartbeats 4000000
namespace Mine
open PyProof PySem PySem.Calls PyProof.Rows PySem.W PySem.W.X

theorem ev_even (x : Int) : ∀ a : List Int, a.all (fun a => a % 2 == 0) = true → ∃ k, ev x a = 2 * k := by
  intro a
  induction a with
  | nil => intro _; exact ⟨0, rfl⟩
  | cons a r ih =>
    intro h
    rw [List.all_cons, Bool.and_eq_true] at h
    obtain ⟨k, hk⟩ := ih h.2
    have h1 : a % 2 = 0 := by simpa using h.1
    refine ⟨a / 2 + x * k, ?_⟩
    show a + x * ev x r = _
    rw [hk, Int.mul_add, Int.mul_left_comm x 2 k]
    lia
/-- what the tails ask of total, whole and grown -/
theorem tot_facts {c ou : Nat} (x : Int) (hc : c = 3 ∨ c = 4) (hou : ou < 4) : ((c : Int) + 1) * totU c ou x (rowsOf c) = wholeU c x c ∧ (∃ k, totU c ou x (rowsOf c) = 2 * k) ∧ groU c ou (rowsOf c) = oddU c := by
  obtain ⟨⟨a1, a2, a3⟩, b1, b2, b3⟩ := pols ou hou
  rcases hc with rfl | rfl
  · refine ⟨?_, ?_, a3⟩
    · have := congrArg (ev x) a1
      rw [ev_scl, ev_tot, ev_wh] at this
      exact this
    · rw [← ev_tot]; exact ev_even x _ a2
  · refine ⟨?_, ?_, b3⟩
    · have := congrArg (ev x) b1
      rw [ev_scl, ev_tot, ev_wh] at this
      exact this
    · rw [← ev_tot]; exact ev_even x _ b2
theorem fdm_unique2 {a b q r : Int} (hb : b < 0) (h : b * q + r = a) (h0 : r ≤ 0) (h1 : b < r) : a.fdiv b = q ∧ a.fmod b = r := by
  have e := fdm_unique (a := -a) (b := -b) (q := q) (r := -r) (by lia) (by rw [Int.neg_mul]; lia) (by lia) (by lia)
  rw [Int.neg_fdiv_neg, Int.neg_fmod_neg] at e
  exact ⟨e.1, by lia⟩
/-- the quotient's factor: c + 1 with the signs -/
noncomputable def sgU (T lo : Int) : Int := if lo == T then 1 else -1
noncomputable def timesU (c : Nat) (T tu lo : Int) : Int := ((c : Int) + 1) * tu * sgU T lo
theorem times_mul {c : Nat} {T W tu lo : Int} (hW : ((c : Int) + 1) * T = W) (ht : tu = 1 ∨ tu = -1) (hl : lo = T ∨ lo = -T) (hT : T ≠ 0) : lo * timesU c T tu lo = W * tu := by
  unfold timesU sgU
  subst hW
  rcases hl with rfl | rfl
  · rw [if_pos (by simp), Int.mul_one]
    rw [Int.mul_comm lo, Int.mul_assoc, Int.mul_comm tu, ← Int.mul_assoc]
  · rw [if_neg (by simp; lia)]
    rw [Int.mul_neg, Int.mul_one, Int.neg_mul_neg, Int.mul_comm T, Int.mul_assoc, Int.mul_comm tu, ← Int.mul_assoc]
theorem tail_div {c : Nat} {T W tu lo : Int} (hW : ((c : Int) + 1) * T = W) (ht : tu = 1 ∨ tu = -1) (hl : lo = T ∨ lo = -T) (hT : T ≠ 0) (he : ∃ k, T = 2 * k) :
    lo ≠ 0 ∧ ((W * tu).fdiv lo = timesU c T tu lo ∧ (W * tu).fmod lo = 0) ∧
    ((W * tu + 1).fdiv lo = (if decide (lo > 0) then timesU c T tu lo else timesU c T tu lo - 1) ∧ (W * tu + 1).fmod lo = (if decide (lo > 0) then 1 else lo + 1)) := by
  have h := times_mul hW ht hl hT
  generalize timesU c T tu lo = q at *
  have hlo : lo ≠ 0 := by lia
  refine ⟨hlo, ?_, ?_⟩
  · by_cases hp : 0 < lo
    · exact fdm_unique hp (by rw [h]; lia) (by lia) hp
    · exact fdm_unique2 (by lia) (by rw [h]; lia) (by lia) (by lia)
  · by_cases hp : 0 < lo
    · rw [if_pos (decide_eq_true hp), if_pos (decide_eq_true hp)]
      obtain ⟨k, hk⟩ := he
      exact fdm_unique hp (by rw [h]) (by lia) (by lia)
    · rw [if_neg (by simpa using hp), if_neg (by simpa using hp)]
      exact fdm_unique2 (by lia) (by rw [Int.mul_sub, h]; lia) (by lia) (by lia)
theorem tot_bits {c : Nat} {T x : Int} (hc : c = 3 ∨ c = 4) (hx : x.natAbs ≤ 10 ^ 60 + 2) (hW : ((c : Int) + 1) * T = wholeU c x c) : Builtin.Int.intBits (wholeU c x c) ≤ 841 ∧ Builtin.Int.intBits T ≤ 841 := by
  have h1 : Builtin.Int.intBits (wholeU c x c) ≤ 841 := Nat.le_trans (whole_bits (by lia) hx c (by lia)) (by lia)
  refine ⟨h1, PyProof.Rows.intBits_le ?_⟩
  have h2 := PyProof.Rows.natAbs_lt_pow_bits (wholeU c x c)
  have h3 : 2 ^ Builtin.Int.intBits (wholeU c x c) ≤ 2 ^ 841 := Nat.pow_le_pow_right (by decide) h1
  have h4 : T.natAbs ≤ (wholeU c x c).natAbs := by
    rw [← hW, Int.natAbs_mul]
    exact Nat.le_mul_of_pos_left _ (by lia)
  lia

section
variable {w : World} {A : Around} {E : Value → Shared → Prop} {h h' : Heap} {gn : Array GenState} {d : Drawn} {t : Nat} {os : OsState} {g : Heap} {L a : Addr} {i : Nat} {vals : List (Option Value)} {own : List (Addr × Obj)}
  {fa : Nat → Addr} {mg mb : Str → Option Value} {n : Str} {cd : Value} {pos : Pos} {sco : Scope} {env : Env} {ns : List Str} {c8 P8 c9 P9 : Addr} {τ8 τ9 rest : List (Addr × Obj)}
theorem for_tuple3 {x : Str} {kx : Nat} {px : Pos} {body : List Stmt} {R : Result → Shared → Prop} {ax : Addr} {items : Array Value} (hA : A.handled = none) (S : St g L (lcS sco) vals own h) (hl : h.IsTuple ax items) (hx : ax ≠ L) (hxo : ∀ p ∈ own, p.1 ≠ ax)
    (q : LocS sco x kx) (J : Nat → List (Option Value) → List (Addr × Obj) → Prop)
    (turn : ∀ k v vals own g₂ h t₁ gn', items[k]? = some v → t ≤ t₁ → J k vals own → Keep g g₂ → GX gn gn' → St g₂ L (lcS sco) (vals.set kx (some v)) own h →
      wpAny (model pg w) A (execs body env) (fun f s' => (f = .next ∧ ∃ h' t' gn'' vals' own', s' = ⟨h', gn'', d, t', os⟩ ∧ GX gn gn'' ∧ St g₂ L (lcS sco) vals' own' h' ∧ J (k + 1) vals' own') ∨ (∃ v, f = .ret v ∧ R (.ok (.ret v)) s'))
        (fun _ _ => False) ⟨h, gn', d, t₁, os⟩)
    (done : ∀ vals own h t₁ gn', J items.size vals own → t ≤ t₁ → GX gn gn' → St g L (lcS sco) vals own h → R (.ok .next) ⟨h, gn', d, t₁, os⟩)
    (hJ : J 0 vals own) (V : EnvIs env sco L := by exact ⟨rfl, rfl, rfl, rfl⟩) :
    wpAny (model pg w) A (pyIter (.ref ax)) (fun it s₂ => codeAny (model pg w) A (.forLoop (.Name x px) it body [] env) R s₂) E ⟨h, gn, d, t, os⟩ := by
  refine wpAny_pyIter_tuple (s := ⟨h, gn, d, t, os⟩) hl ?_
  have hlt : ax < h.objs.size := let ⟨o, ho, _⟩ := hl; Heap.lt_size ho
  have S' := (S.push { cls := .type "tuple_iterator", data := .fields #[.ref ax, .int 0 0] }).drop (List.sublist_cons_self _ _)
  refine walk_for3 (V := V) (Walks.tuple hA h.objs.size ax (Nat.ne_of_lt hlt) items) q J ?_ done hJ S' ⟨⟨_, Heap.get?_push_size _ rfl, rfl, rfl⟩, hl.push _⟩ ?_ ?_ ?_ ?_
  · rintro k v vals own g₂ h t₁ gn' hk hv ht hJ hk2 gx S₂
    exact turn k v vals own g₂ h t₁ gn' hv ht hJ hk2 gx S₂
  · have := Nat.ne_of_lt S.isNs.lt
    simp [this, hx.symm]
  · intro p hp
    have h1 := Nat.ne_of_lt (S.own_lt hp)
    have h2 := hxo p hp
    simp [h1, h2]
  · intro b hb
    rw [List.mem_singleton.mp hb]; exact S.fresh
  · intro k h hh b hb e
    obtain ⟨⟨o, ho, _⟩, ⟨o', ho', _⟩⟩ := hh
    rcases List.mem_cons.mp hb with rfl | hb
    · rw [ho] at e; cases e
    · rw [List.mem_singleton.mp hb, ho'] at e; cases e

theorem o_gt {x y : Int} {t1 t2 : Tok} {s : Shared} {Q : Value → Shared → Prop} (c : Q (.bool (decide (x > y))) s) : wpAny (model pg w) A (compareOp .Gt (.int x t1) (.int y t2)) Q E s := P.gt_int c
noncomputable def turnBody : List Stmt := match tl 17 with
  | .For _ _ b _ _ :: _ => b
  | _ => []
noncomputable def lowerBody : List Stmt := match turnBody with
  | .For _ _ b _ _ :: _ => b
  | _ => []
theorem lower_turn {c ou : Nat} {x T G : Int} {D NA HA : Addr} {tc to tx t8 t9 t10 t11 t12 tt tl : Tok} {v5 v6 v13 v14 v15 v16 v17 v18 v19 v20 v21 v24 : Option Value} {tu lo : Int} {Q : Flow → Shared → Prop}
    (M : DM fa mg mb g c8 P8 c9 P9) (T0 : TT P8 P9 τ8 τ9) (hA : A.handled = none) (hroom : A.depth + 60 < recursionLimit) (hu : A.units + 100 < cLine) (hc : c = 3 ∨ c = 4) (hx : x.natAbs ≤ 10 ^ 60 + 2)
    (hW : ((c : Int) + 1) * T = wholeU c x c) (hT : T ≠ 0) (he : ∃ k, T = 2 * k) (htu : tu = 1 ∨ tu = -1) (hlo : lo = T ∨ lo = -T)
    (S : St g L (lc 21) (V13 D c tc ou to x tx NA v5 v6 HA t8 t9 t10 T t11 G t12 ++ [v13, v14, v15, v16, v17, v18, v19, v20, v21, some (.int tu tt), some (.int lo tl), v24]) (τ8 ++ (τ9 ++ [])) h)
    (fin : ∀ h' t' v24 τ8' τ9', TT P8 P9 τ8' τ9' → St g L (lc 21) (V13 D c tc ou to x tx NA v5 v6 HA t8 t9 t10 T t11 G t12 ++ [v13, v14, v15, v16, v17, v18, v19, v20, v21, some (.int tu tt), some (.int lo tl), v24]) (τ8' ++ (τ9' ++ [])) h' → Q .next ⟨h', gn, d, t', os⟩) :
    wpAny (model pg w) A (execs lowerBody (envOfC (nm 21) (sc 21) L a cd)) Q (fun _ _ => False) ⟨h, gn, d, t, os⟩ := by
  obtain ⟨wb, tb⟩ := tot_bits hc hx hW
  obtain ⟨lo0, ⟨d1, m1⟩, d2, m2⟩ := tail_div hW htu hlo hT he
  have lb : Builtin.Int.intBits lo ≤ 1000 := by
    rcases hlo with rfl | rfl
    · lia
    · have := PyProof.Rows.intBits_le (a := -T) (k := 841) (by
        rw [Int.natAbs_neg]
        exact Nat.lt_of_lt_of_le (PyProof.Rows.natAbs_lt_pow_bits T) (Nat.pow_le_pow_right (by decide) tb))
      lia
  have tub : Builtin.Int.intBits tu ≤ 64 := PySem.intBits_le_64 (by lia) (by lia)
  have b1 : Builtin.Int.intBits (wholeU c x c * tu) ≤ 905 := Nat.le_trans (PySem.intBits_mul_le wb tub) (by decide)
  have b2 : Builtin.Int.intBits (wholeU c x c * tu + 1) ≤ 8000 := Nat.le_trans (PySem.intBits_add_le b1 (PyProof.Rows.intBits_le (a := 1) (k := 1) (by decide))) (by decide)
  have cb : Builtin.Int.intBits ((c : Int) + 1) ≤ 64 := PySem.intBits_le_64 (by lia) (by lia)
  refine wpAny_execs_cons (wpAny_Assign_Name (wpAny_BinOp (wpAny_BinOp (wpAny_BinOp (r_loc S v21_count rfl (c_int fun t₂ => o_add fun u₁ t₃ => r_loc S v21_turned rfl (o_mul (.of_left cb) fun u₂ t₄ => wpAny_IfExp (wpAny_isTrue_Compare1 (r_loc S v21_lower rfl (r_loc S v21_total rfl (o_eq (wpAny_truthy_bool ?_))))))))))))
  refine if_two (P := fun v s' => ∃ (tk : Tok) (t' : Nat), v = .int (sgU T lo) tk ∧ s' = ⟨h, gn, d, t', os⟩) ?_ (fun e => c_int fun t₅ => ⟨_, _, congrArg (fun z => Value.int z _) ?_, rfl⟩) (fun e => wpAny_UnaryOp (c_int fun t₅ => o_neg fun u₃ t₆ => ⟨_, _, congrArg (fun z => Value.int z _) ?_, rfl⟩))
  rotate_left
  · unfold sgU; rw [if_pos e]
  · unfold sgU; rw [e]; rfl
  rintro v s' ⟨u₄, t₇, rfl, rfl⟩
  refine o_mul (.of_right (PySem.intBits_le_64 (by unfold sgU; split <;> decide) (by unfold sgU; split <;> decide))) fun u₅ t₈ => ?_
  refine r_st S v21_times fun h₂ t₉ S₂ _ => ?_
  have S₂ : St g L (lc 21) (V13 D c tc ou to x tx NA v5 v6 HA t8 t9 t10 T t11 G t12 ++ [v13, v14, v15, v16, v17, v18, v19, v20, v21, some (.int tu tt), some (.int lo tl), some (.int (timesU c T tu lo) u₅)]) (τ8 ++ (τ9 ++ [])) h₂ := S₂
  generalize timesU c T tu lo = q at *
  refine wpAny_execs_cons (wpAny_If (wpAny_isTrue_Compare1 (Call_ (r_fn S₂ M.base g21_int_divmod (by decide) ?_))))
  refine call_fn M.base (by decide) (acons (wpAny_BinOp (r_loc S₂ v21_whole rfl (r_loc S₂ v21_turned rfl (o_mul (.of_right tub) fun u₆ t₁₀ => acons (r_loc S₂ v21_lower rfl (anil ⟨S₂.keep, wpAny_call ?_⟩)))))))
  refine idm_st M T0 S₂ hA (by lia) (by lia) lo0 lb fun h₃ t₁₁ TA u v τ8' τ9' T1 S₃ => ?_
  refine Tuple_ (acons (r_loc S₃ v21_times rfl (acons (c_int fun t₁₂ => anil (new_tuple rfl ?_)))))
  have S₄ := S₃.push (tup (.int q u₅) (.int 0 t₁₁))
  refine o_ne_tup (S₄.isOwn _ (.tail _ (.head _))).1 (Heap.get?_push_size _ rfl) (by lia) d1 m1 (wpAny_truthy_bool ?_)
  rw [if_neg Bool.false_ne_true]
  refine wpAny_execs_nil ?_
  have S₅ := S₄.drop (own' := τ8' ++ (τ9' ++ [])) (.cons _ (.cons _ (.refl _)))
  clear S₄ S₃
  refine wpAny_execs_cons (wpAny_If (wpAny_isTrue_Compare1 (Call_ (r_fn S₅ M.base g21_int_divmod (by decide) ?_))))
  refine call_fn M.base (by decide) (acons (wpAny_BinOp (wpAny_BinOp (r_loc S₅ v21_whole rfl (r_loc S₅ v21_turned rfl (o_mul (.of_right tub) fun u₆ t₁₀ => c_int fun t₁₂ => o_add fun u₇ t₁₃ => acons (r_loc S₅ v21_lower rfl (anil ⟨S₅.keep, wpAny_call ?_⟩))))))))
  refine idm_st M T1 S₅ hA (by lia) b2 lo0 lb fun h₆ t₁₄ TB u' v' τ8'' τ9'' T2 S₆ => ?_
  refine wpAny_IfExp (wpAny_isTrue_Compare1 (r_loc S₆ v21_lower rfl (c_int fun t₁₅ => o_gt (wpAny_truthy_bool ?_))))
  refine if_two (P := fun v s' => ∃ (q2 r2 : Int) (u1 u2 : Tok) (t' : Nat), v = .ref h₆.objs.size ∧ q2 = (if decide (lo > 0) then q else q - 1) ∧ r2 = (if decide (lo > 0) then 1 else lo + 1) ∧ s' = ⟨h₆.push (tup (.int q2 u1) (.int r2 u2)), gn, d, t', os⟩) ?_
    (fun e => Tuple_ (acons (r_loc S₆ v21_times rfl (acons (c_int fun t₁₆ => anil (new_tuple rfl ⟨q, 1, u₅, _, _, rfl, by rw [if_pos e], by rw [if_pos e], rfl⟩))))))
    (fun e => Tuple_ (acons (wpAny_BinOp (r_loc S₆ v21_times rfl (c_int fun t₁₆ => o_sub fun u₈ t₁₇ => acons (wpAny_BinOp (r_loc S₆ v21_lower rfl (c_int fun t₁₈ => o_add fun u₉ t₁₉ => anil (new_tuple rfl ⟨q - 1, lo + 1, _, _, _, rfl, by rw [e]; rfl, by rw [e]; rfl, rfl⟩)))))))))
  rintro v s' ⟨q2, r2, u1, u2, t', rfl, e1, e2, rfl⟩
  have S₇ := S₆.push (tup (.int q2 u1) (.int r2 u2))
  refine o_ne_tup (S₇.isOwn _ (.tail _ (.head _))).1 (Heap.get?_push_size _ rfl) (by lia) (d2.trans e1.symm) (m2.trans e2.symm) (wpAny_truthy_bool ?_)
  rw [if_neg Bool.false_ne_true]
  repeat refine wpAny_execs_nil ?_
  exact fin _ _ _ τ8'' τ9'' T2 (S₇.drop (.cons _ (.cons _ (.refl _))))
end
end Mine
end
-- part M48
section
set_option maxRecDepth 100000
set_option linter.unusedVariables false
set_option maxHeartbeats 4000000
namespace Mine
open PyProof PySem PySem.Calls PyProof.Rows PySem.W PySem.W.X

section
variable {w : World} {A : Around} {E : Value → Shared → Prop} {h h' : Heap} {gn : Array GenState} {d : Drawn} {t : Nat} {os : OsState} {g : Heap} {L a : Addr} {i : Nat} {vals : List (Option Value)} {own : List (Addr × Obj)}
  {fa : Nat → Addr} {mg mb : Str → Option Value} {n : Str} {cd : Value} {pos : Pos} {sco : Scope} {env : Env} {ns : List Str} {c8 P8 c9 P9 : Addr} {τ8 τ9 rest : List (Addr × Obj)}
theorem two_items {x y v : Value} {k : Nat} (h : (#[x, y] : Array Value)[k]? = some v) : v = x ∨ v = y := by
  match k, h with
  | 0, h => exact .inl (by simpa using h.symm)
  | 1, h => exact .inr (by simpa using h.symm)
theorem tail_for {c ou : Nat} {x T G : Int} {D NA HA : Addr} {tc to tx t8 t9 t10 t11 t12 : Tok} {v5 v6 v13 v14 v15 v16 v17 v18 v19 v20 v21 : Option Value} {Q : Flow → Shared → Prop}
    (M : DM fa mg mb g c8 P8 c9 P9) (T0 : TT P8 P9 τ8 τ9) (hA : A.handled = none) (hroom : A.depth + 60 < recursionLimit) (hu : A.units + 100 < cLine) (hc : c = 3 ∨ c = 4) (hx : x.natAbs ≤ 10 ^ 60 + 2)
    (hW : ((c : Int) + 1) * T = wholeU c x c) (hT : T ≠ 0) (he : ∃ k, T = 2 * k)
    (S : St g L (lc 21) (V13 D c tc ou to x tx NA v5 v6 HA t8 t9 t10 T t11 G t12 ++ [v13, v14, v15, v16, v17, v18, v19, v20, v21, none, none, none]) (τ8 ++ (τ9 ++ [])) h)
    (fin : ∀ h' t' gn' vals τ8' τ9', TT P8 P9 τ8' τ9' → GX gn gn' → St g L (lc 21) vals (τ8' ++ (τ9' ++ [])) h' → Q (.ret (.bool true)) ⟨h', gn', d, t', os⟩) :
    wpAny (model pg w) A (execs (tl 17) (envOfC (nm 21) (sc 21) L a cd)) Q (fun _ _ => False) ⟨h, gn, d, t, os⟩ := by
  refine wpAny_execs_cons (wpAny_For (Tuple_ (acons (c_int fun t₂ => acons (wpAny_UnaryOp (c_int fun t₃ => o_neg fun u₁ t₄ => anil (new_tuple rfl ?_)))))))
  have S₂ : St g L (lc 21) _ (τ8 ++ (τ9 ++ [])) (h.push (tup (.int 1 t) (.int (-1) u₁))) := S.keeps fun b o e => Heap.get?_push_of_some _ e
  refine for_tuple3 hA S₂ (items := #[.int 1 t, .int (-1) u₁]) ⟨_, Heap.get?_push_size _ rfl, rfl, _, rfl⟩ (Nat.ne_of_gt S.isNs.lt) (fun p hp => Nat.ne_of_lt (S.own_lt hp)) v21_turned
    (fun k vals own' => ∃ τ8' τ9' v22 v23 v24, TT P8 P9 τ8' τ9' ∧ own' = τ8' ++ (τ9' ++ []) ∧ vals = V13 D c tc ou to x tx NA v5 v6 HA t8 t9 t10 T t11 G t12 ++ [v13, v14, v15, v16, v17, v18, v19, v20, v21, v22, v23, v24]) ?_ ?_
    ⟨τ8, τ9, none, none, none, T0, rfl, rfl⟩
  · rintro k v vals own' g₂ h₃ t₅ gn₁ hk hle ⟨τ8', τ9', v22, v23, v24, T1, rfl, rfl⟩ hg₂ gx S₃
    have hv : ∃ tu tt, v = .int tu tt ∧ (tu = 1 ∨ tu = -1) := by
      rcases two_items hk with rfl | rfl
      · exact ⟨_, _, rfl, .inl rfl⟩
      · exact ⟨_, _, rfl, .inr rfl⟩
    obtain ⟨tu, tt, rfl, htu⟩ := hv
    refine wpAny_execs_cons (wpAny_For (Tuple_ (acons (r_loc S₃ v21_total rfl (acons (wpAny_UnaryOp (r_loc S₃ v21_total rfl (o_neg fun u₂ t₆ => anil (new_tuple rfl ?_)))))))))
    have S₄ := S₃.keeps (h' := h₃.push (tup (.int T t11) (.int (-T) u₂))) fun b o e => Heap.get?_push_of_some _ e
    refine for_tuple3 hA S₄ (items := #[.int T t11, .int (-T) u₂]) ⟨_, Heap.get?_push_size _ rfl, rfl, _, rfl⟩ (Nat.ne_of_gt S₃.isNs.lt) (fun p hp => Nat.ne_of_lt (S₃.own_lt hp)) v21_lower
      (fun k vals own' => ∃ τ8' τ9' v23 v24, TT P8 P9 τ8' τ9' ∧ own' = τ8' ++ (τ9' ++ []) ∧ vals = V13 D c tc ou to x tx NA v5 v6 HA t8 t9 t10 T t11 G t12 ++ [v13, v14, v15, v16, v17, v18, v19, v20, v21, some (.int tu tt), v23, v24]) ?_ ?_
      ⟨τ8', τ9', v23, v24, T1, rfl, rfl⟩
    · intro k₂ v₂ vals₂ own₂ g₃ h₅ t₇ gn₂ hk₂ hle₂ hpat10 hg₃ gx₂ S₅
      refine abs_q fun Q1 hQ1 => ?_
      obtain ⟨τ8₂, τ9₂, v23, v24, T2, rfl, rfl⟩ := hpat10
      have hv : ∃ lo tl, v₂ = .int lo tl ∧ (lo = T ∨ lo = -T) := by
        rcases two_items hk₂ with rfl | rfl
        · exact ⟨_, _, rfl, .inl rfl⟩
        · exact ⟨_, _, rfl, .inr rfl⟩
      obtain ⟨lo, tl, rfl, hlo⟩ := hv
      refine lower_turn ((M.keeps hg₂).keeps hg₃) T2 hA hroom hu hc hx hW hT he htu hlo S₅ fun h₆ t₈ v24 τ8₃ τ9₃ T3 S₆ => ?_
      exact hQ1 _ _ (.inl ⟨rfl, _, _, _, _, _, rfl, gx₂, S₆, τ8₃, τ9₃, _, v24, T3, rfl, rfl⟩)
    · intro vals₂ own₂ h₅ t₇ gn₂ hpat5 hle₂ gx₂ S₅
      refine abs_q fun Q2 hQ2 => ?_
      obtain ⟨τ8₂, τ9₂, v23, v24, T2, rfl, rfl⟩ := hpat5
      repeat refine wpAny_execs_nil ?_
      exact hQ2 _ _ (.inl ⟨rfl, _, _, _, _, _, rfl, gx.trans gx₂, S₅, τ8₂, τ9₂, _, v23, v24, T2, rfl, rfl⟩)
  · rintro vals own' h₃ t₅ gn₁ ⟨τ8', τ9', v22, v23, v24, T1, rfl, rfl⟩ hle gx S₃
    exact wpAny_execs_cons (wpAny_Return_some (c_bool (fin _ _ _ _ τ8' τ9' T1 gx S₃)))
end
end Mine
end
-- part M49
section
set_option maxRecDepth 100000
set_option linter.unusedVariables false
set_option maxHeartbeats 4000000
namespace Mine
open PyProof PySem PySem.Calls PyProof.Rows PySem.W PySem.W.X

section
variable {w : World} {A : Around} {E : Value → Shared → Prop} {h h' : Heap} {gn : Array GenState} {d : Drawn} {t : Nat} {os : OsState} {g : Heap} {L a : Addr} {i : Nat} {vals : List (Option Value)} {own : List (Addr × Obj)}
  {fa : Nat → Addr} {mg mb : Str → Option Value} {n : Str} {cd : Value} {pos : Pos} {sco : Scope} {env : Env} {ns : List Str} {c8 P8 c9 P9 : Addr} {τ8 τ9 rest : List (Addr × Obj)}
theorem ok11' : DefOk 11 := by decide +kernel
theorem idm_zero {R : Result → Shared → Prop} {x : Int} {tx tb : Tok} (B : Base fa mg mb h) (S : St g L ns vals own h) (hA : A.handled = none) (hroom : A.depth < recursionLimit)
    (hfr : A.frames = some [env]) (hf : env.frame = some L) (hks : env.scope.kind ≠ .module)
    (k : ∀ h' t' e a0, Heap.FlyingW (hide h [L]) [env] e (.type "ZeroDivisionError") a0 h' → h.UpToSlots h' → R (.error (.ref e)) ⟨h', gn, d, t', os⟩) :
    codeAny (model pg w) A (.call (.ref (fa 11)) ⟨[.int x tx, .int 0 tb], []⟩) R ⟨h, gn, d, t, os⟩ := by
  obtain ⟨o, pm, cd, doc, ho, hd, hcr⟩ := (B.fn 11 (by decide)).obj
  obtain ⟨q1, q2, q3, q4, q5⟩ := ok11'
  have hbind : bindArgs (docDef (nm 11) (pr 11) (bd 11) (sc 11) pm cd doc) ⟨[.int x tx, .int 0 tb], []⟩ = pure (((pr 11).args.map (·.arg)).zip [.int x tx, .int 0 tb]) := by kernel_rfl
  refine call_plain (s := ⟨h, gn, d, t, os⟩) hroom ho hd B.nolimit hcr hbind ?_ (fun h₁ F => ?_) q1 q2 q3 q4
  · intro x hx
    obtain ⟨p, hp, e⟩ := List.mem_map.mp (zip_mem hx)
    rw [← e]; exact (q5 p hp).1
  · have hnone : h.get? h.objs.size = none := by
      cases hq : h.get? h.objs.size with
      | none => rfl
      | some o' => exact absurd (Heap.lt_size hq) (Nat.lt_irrefl _)
    have S₁ : St h h.objs.size (lc 11) (start 11 [.int x tx, .int 0 tb]) [] h₁ := by
      refine ⟨?_, by rw [start, List.length_map], F.keep, hnone, (fun _ hp => by cases hp), by simp⟩
      have := F.ns
      rw [start, slot_map _ _ fun y hy => ?_]
      · exact this
      · refine lookup_rev_none fun p hp e => hy ?_
        obtain ⟨p', hp', e'⟩ := List.mem_map.mp (zip_mem hp)
        rw [← e, ← e']; exact (q5 p' hp').2
    have hgB : ∀ b o, (hide h [L]).get? b = some o → h.get? b = some o := fun b o e => by
      rw [hide_get] at e; split at e <;> first | (cases e; done) | exact e
    have hBn : ∀ b, h.get? b = none → (hide h [L]).get? b = none := fun b e => by rw [hide_get]; split <;> first | rfl | exact e
    refine wpAny_execs_cons (wpAny_If (wpAny_isTrue_Compare1 (r_loc S₁ v11_b rfl (c_int fun t₂ => o_eq (wpAny_truthy_bool ?_)))))
    rw [if_pos (by rfl)]
    refine wpAny_execs_cons (Raise_classB hA excClass_ZeroDivisionError (by rw [isSubtype_type]; kernel_rfl) (r_bt S₁ B g11_ZeroDivisionError b_ZeroDivisionError ⟨rfl, rfl⟩) fun h₂ e hx => ?_)
    -- the exception is new; it leaves the def's frame for the caller's
    obtain ⟨ob, tp, he, hcls, hdat⟩ := hx.there
    have up : Keep h h₂ := fun b o q => hx.keeps b o (F.keep b o q)
    have hen : (hide h [L]).get? e = none := hBn e (by
      cases hq : h.get? e with
      | none => rfl
      | some o => exact absurd (F.keep e o hq) (by rw [hx.new]; nofun))
    have hin : Heap.FunFrames h₂ (hide h [L]) [env] := .cons hks hf (S.isNs.keeps up) (by rw [hide_get, if_pos (by simp)]) trivial
    have hboth := Heap.FunFrames.cons (env := envOf (nm 11) (sc 11) h.objs.size (fa 11) cd) (by rw [show (envOf (nm 11) (sc 11) h.objs.size (fa 11) cd).scope = sc 11 from rfl, q3]; decide) rfl (F.ns.keeps hx.keeps) (hBn _ hnone) hin
    refine wpAny_leaving_firstW (s := ⟨h₂, gn, d, _, os⟩) (Around.frames_deeper hfr) hboth rfl he (fun b o q => up b o (hgB b o q)) hen hdat rfl rfl fun h₃ left => ?_
    exact k h₃ _ e tp ⟨left.1, hen, left.2.1.2.2, hcls ▸ left.2.2.1⟩ ((Heap.UpToSlots.of_keeps up).trans left.2.2.2)
/-- the frame and its own behind a catch -/
theorem St.landed {h' : Heap} (S : St g L ns vals own h) (hk : (hide h [L]).StaysIn h') (hs : h.UpToSlots h') : St g L ns vals own h' where
  isNs := hs.ns S.isNs
  len := S.len
  keep := fun b o e => by
    refine hk b o ?_
    rw [hide_get, if_neg, S.keep b o e]
    intro hm
    rw [List.mem_singleton.mp hm, S.gL] at e; cases e
  gL := S.gL
  isOwn := fun p hp => by
    refine ⟨hk _ _ ?_, (S.isOwn p hp).2⟩
    rw [hide_get, if_neg, (S.isOwn p hp).1]
    intro hm
    exact (S.isOwn p hp).2.1 (List.mem_singleton.mp hm)
  nd := S.nd
theorem law_tail {c ou : Nat} {x T G : Int} {D NA HA : Addr} {tc to tx t8 t9 t10 t11 t12 : Tok} {v5 v6 v13 v14 v15 v16 v17 v18 v19 v20 v21 : Option Value} {Q : Flow → Shared → Prop}
    (M : DM fa mg mb g c8 P8 c9 P9) (T0 : TT P8 P9 τ8 τ9) (hA : A.handled = none) (hroom : A.depth + 60 < recursionLimit) (hu : A.units + 100 < cLine) (hfr : A.frames = some [envOfC (nm 21) (sc 21) L a cd]) (hc : c = 3 ∨ c = 4) (hx : x.natAbs ≤ 10 ^ 60 + 2)
    (hW : ((c : Int) + 1) * T = wholeU c x c) (he : ∃ k, T = 2 * k) (hG : G = oddU c)
    (S : St g L (lc 21) (V13 D c tc ou to x tx NA v5 v6 HA t8 t9 t10 T t11 G t12 ++ [v13, v14, v15, v16, v17, v18, v19, v20, v21, none, none, none]) (τ8 ++ (τ9 ++ [])) h)
    (fin : ∀ h' t' gn' vals τ8' τ9', TT P8 P9 τ8' τ9' → GX gn gn' → St g L (lc 21) vals (τ8' ++ (τ9' ++ [])) h' → Q (.ret (.bool true)) ⟨h', gn', d, t', os⟩) :
    wpAny (model pg w) A (execs (tl 15) (envOfC (nm 21) (sc 21) L a cd)) Q (fun _ _ => False) ⟨h, gn, d, t, os⟩ := by
  refine wpAny_execs_cons (wpAny_If (wpAny_isTrue_Compare1 (r_loc S v21_grown rfl (r_loc S v21_odd rfl (o_ne (wpAny_truthy_bool ?_))))))
  rw [hG, bne_self_eq_false, if_neg Bool.false_ne_true]
  refine wpAny_execs_nil ?_
  refine wpAny_execs_cons (wpAny_If (wpAny_isTrue_Compare1 (r_loc S v21_total rfl (c_int fun t₂ => o_eq (wpAny_truthy_bool ?_)))))
  by_cases hT : T = 0
  · subst hT
    have hw0 : wholeU c x c = 0 := by rw [← hW, Int.mul_zero]
    rw [if_pos (by rfl)]
    refine wpAny_execs_cons (wpAny_Try_except ?_)
    refine wpAny_execs_cons (wpAny_Expr (Call_ (r_fn S M.base g21_int_divmod (by decide) ?_)))
    refine call_fn M.base (by decide) (acons (r_loc S v21_whole rfl (acons (r_loc S v21_total rfl (anil ⟨S.keep, wpAny_call ?_⟩)))))
    refine idm_zero (M.base.keeps S.keep) S hA (by lia) hfr rfl (show (sc 21).kind ≠ .module by decide) fun h₃ t₃ e a0 hfl hsm => ?_
    refine wpAny_looks_onW hfr rfl hfl fun h₄ hheld hsm₄ => wpAny_landsW hheld fun h₅ hfl₅ hsm₅ => ?_
    have S₅ := S.landed hfl₅.1 ((hsm.trans hsm₄).trans hsm₅)
    refine wpAny_handleBy_builtin (X := "ZeroDivisionError") (T := "ZeroDivisionError") (b := true) PySem.F.isExc_ZeroDivisionError PySem.F.notTuple_ZeroDivisionError (by rw [isSubtype_type]; kernel_rfl)
      (r_bt S₅ M.base g21_ZeroDivisionError b_ZeroDivisionError ⟨rfl, hfl₅.there, ?_⟩)
    rw [if_pos rfl]
    refine lands_againW hfl₅ fun h₆ hfl₆ hsm₆ => ?_
    have S₆ := S.landed hfl₆.1 (((hsm.trans hsm₄).trans hsm₅).trans hsm₆)
    refine wpAny_execs_cons (wpAny_Return_some (wpAny_Compare1 (r_loc S₆ v21_whole rfl (c_int fun t₄ => o_eq ?_))))
    rw [hw0]
    exact fin _ _ _ _ τ8 τ9 T0 id S₆
  · rw [if_neg (by simpa using hT)]
    refine wpAny_execs_nil ?_
    subst hG
    exact tail_for M T0 hA hroom hu hc hx hW hT he S fin
end
end Mine
end
-- part M50
section
set_option maxRecDepth 100000
set_option linter.unusedVariables false
set_option maxHeartbeats 4000000
namespace Mine
open PyProof PySem PySem.Calls PyProof.Rows PySem.W PySem.W.X

section
variable {w : World} {A : Around} {E : Value → Shared → Prop} {h h' : Heap} {gn : Array GenState} {d : Drawn} {t : Nat} {os : OsState} {g : Heap} {L a : Addr} {i : Nat} {vals : List (Option Value)} {own : List (Addr × Obj)}
  {fa : Nat → Addr} {mg mb : Str → Option Value} {n : Str} {cd : Value} {pos : Pos} {sco : Scope} {env : Env} {ns : List Str} {c8 P8 c9 P9 : Addr} {τ8 τ9 rest : List (Addr × Obj)}
theorem law_walk {Q : Flow → Shared → Prop} {ax : Addr} {items : Array Value} (M : DM fa mg mb g c8 P8 c9 P9) (T0 : TT P8 P9 τ8 τ9) (hA : A.handled = none) (hroom : A.depth + 60 < recursionLimit) (hu : A.units + 100 < cLine)
    (hfr : A.frames = some [envOfC (nm 21) (sc 21) L a cd])
    (S : St g L (lc 21) (List.replicate 25 none) (τ8 ++ (τ9 ++ [])) h) (hcell : g.IsCell (L + 1) (some (.ref ax))) (hl : g.IsList ax items) (hi : AllInts items) (hsz : items.size ≤ 1000)
    (fin : ∀ h' t' gn' vals τ8' τ9', TT P8 P9 τ8' τ9' → GX gn gn' → St g L (lc 21) vals (τ8' ++ (τ9' ++ [])) h' → Q (.ret (.bool true)) ⟨h', gn', d, t', os⟩) :
    wpAny (model pg w) A (execs (bd 21) (envOfC (nm 21) (sc 21) L a cd)) Q (fun _ _ => False) ⟨h, gn, d, t, os⟩ := by
  show wpAny (model pg w) A (execs (tl 0) (envOfC (nm 21) (sc 21) L a cd)) Q (fun _ _ => False) ⟨h, gn, d, t, os⟩
  refine law_sums M hA S hcell hl hi hsz fun D ys nn zs g₁ h₁ t₁ k₁ hz hlen hD S₁ => ?_
  refine law_head (M.keeps k₁) hA hroom S₁ hD hz hlen fun c ou x NA nits n2 ns g₂ h₂ t₂ tc to tx hc hou hx k₂ to0 to1 hN hns hnl hpw S₂ => ?_
  have M₂ := (M.keeps k₁).keeps k₂
  refine law_coll M₂ hA hroom hc hN hns hnl hpw S₂ fun v5 v6 h₃ t₃ ht₃ S₃ => ?_
  refine law_sort M₂ hA hroom hu hc hN hns hnl hpw S₃ fun h₄ t₄ ht₄ S₄ => ?_
  refine law_hung M₂ hA hroom hu hc hN hns hnl S₄ fun HA hits hn g₅ h₅ t₅ ht₅ k₅ hH hhs S₅ => ?_
  rw [hung_same (by lia) hnl hpw] at hhs
  have M₅ := M₂.keeps k₅
  refine law_whole M₅ hA hc hx S₅ fun v5 v6 t8 t9 t10 t11 t12 h₆ t₆ ht₆ S₆ => ?_
  have hto : to < t₆ := Nat.lt_of_lt_of_le to1 (Nat.le_trans ht₃ (Nat.le_trans ht₄ (Nat.le_trans ht₅ ht₆)))
  refine rows_for M₅ T0 hA hroom hu ⟨to0, hto⟩ hc hou hx hH hhs S₆ fun h₇ t₇ gn₇ t11 t12 v13 v14 v15 v16 v17 v18 v19 v20 v21 τ8' τ9' T1 gx S₇ => ?_
  obtain ⟨hW, he, hG⟩ := tot_facts x hc hou
  refine law_tail M₅ T1 hA hroom hu hfr hc hx hW he hG S₇ fun h₈ t₈ gn₈ vals τ8₂ τ9₂ T2 gx₂ S₈ => ?_
  exact fin h₈ t₈ gn₈ vals τ8₂ τ9₂ T2 (gx.trans gx₂) (S₈.weaken fun b o e => k₅ _ _ (k₂ _ _ (k₁ _ _ e)))
end
end Mine
end
-- part H3
section
set_option maxRecDepth 100000
set_option linter.unusedVariables false
set_option maxHeartbeats 4000000
namespace Mine
open PyProof PySem PySem.Calls PyProof.Rows PySem.W PySem.W.X

/-- the end of a call whose generators are spent -/
noncomputable def GoodH (cw : ClaimW) (cl : Str → Option Addr) (mean : ExcName → Option Value) (args : List WData) (s₁ : Shared) (tabs : List (Addr × Addr)) (res : Result) (s' : Shared) : Prop :=
  (∃ v d as, res = .ok (.ret v) ∧ (∀ cls, cw.raises args cls = false) ∧ ReadsW cw.records cl s'.heap v d as ∧ cw.post args d args = true ∧ as = []) ∧
  (∀ b o, (ghostOf s₁.heap tabs).get? b = some o → s'.heap.get? b = some o) ∧ s'.os = s₁.os ∧ AllBare s'.gens ∧ GrownAll tabs s'.heap
/-- what stood before the call stands behind it, or is one of the two tables, which may have grown -/
theorem kept_or_table {h h' : Heap} {tabs : List (Addr × Addr)} (hT : TabsAt tabs h) (hk : Keep (ghostOf h tabs) h') (hgr : GrownAll tabs h') {b : Addr} {o : Obj} (e : h.get? b = some o) :
    h'.get? b = some o ∨ (isCodeTable h b ∧ o = tabObj #[] ∧ GrownAt b h') := by
  rcases Classical.em (∃ q ∈ tabs, q.2 = b) with ⟨q, hq, rfl⟩ | off
  · have hc := hT q hq
    exact .inr ⟨(hc.1.tab hc.2).isCodeTable, by simpa [hc.2] using e.symm, hgr.get q hq⟩
  · exact .inl (hk b o (ghost_ne e fun hm => off (by simpa using List.mem_map.mp hm)))
theorem kn_postG {M : Model} {A : Around} {cd : Code} {s s₁ : Shared} {cw : ClaimW} {cl : Str → Option Addr} {mean : ExcName → Option Value} {args : List WData} {tabs : List (Addr × Addr)} (hT : TabsAt tabs s₁.heap)
    (h : codeAny M A cd (fun r s' => GoodH cw cl mean args s₁ tabs r s') s) : codeAny M A cd (GoodWG cw cl mean args s₁) s := by
  refine codeAny_mono h ?_
  rintro r s' ⟨⟨v, d, _, hr, hn, hd, hp, rfl⟩, hk, hos, hbare, hgr⟩
  have two := fun b o (e : s₁.heap.get? b = some o) => kept_or_table hT hk hgr e
  refine ⟨.inl ⟨v, d, [], hr, hn, hd, hp, fun _ => by simp⟩, ⟨?_, ?_⟩, hos, hbare⟩ <;> intro b o e <;> rcases two b o e with q | ⟨q, rfl, ps, qs⟩
  · exact .inl q
  · exact .inr (.inl ⟨q, rfl, #[], ps, rfl, by simpa using qs⟩)
  · exact ⟨o, q⟩
  · exact ⟨_, qs⟩

noncomputable abbrev btNames : List Str := ["len", "chr", "ord", "range", "enumerate", "reversed", "sorted", "sum", "divmod", "ZeroDivisionError"]
/-- what the top's objects must show: the tables of the two defs that hold inner defs, the names left free, no token booked -/
noncomputable def chk_ (K : Frag) : Bool :=
  (match tabIn K (nm 8), tabIn K (nm 9) with | some (_, P), some (_, P') => P != P' | _, _ => false) &&
  (match nsIn K cStatics sharingNotToldKey with | some none => true | _ => false) &&
  btNames.all fun x => match nsIn K mainGlobals x with | some none => true | _ => false
noncomputable def pickAt (h : Heap) : List Addr → Frag
  | [] => []
  | a :: r => match h.get? a with | some o => (a, o) :: pickAt h r | none => pickAt h r
theorem pick_in (h : Heap) : ∀ as, (pickAt h as).In h := by
  intro as
  induction as with
  | nil => intro a o e; cases e
  | cons a r ih =>
    intro b o e
    unfold pickAt at e
    split at e
    · rename_i x hx
      rw [List.lookup_cons] at e
      cases hb : b == a with
      | true => rw [hb] at e; cases e; rw [eq_of_beq hb]; exact hx
      | false => rw [hb] at e; exact ih b o e
    · exact ih b o e
/-- what the head looks at -/
noncomputable def lawHook : Hook where
  α := Bool
  obs := fun s => chk_ (pickAt s.heap [2, 3, 55, 56, 62, 63])
  val := fun _ => true
  says := fun _ h => ∃ K : Frag, K.In h ∧ chk_ K = true
  of := fun _ s e => ⟨_, pick_in s.heap _, e⟩
  keeps := fun _ _ _ ⟨K, X, e⟩ k => ⟨K, X.keeps k, e⟩
noncomputable def faOf (mg : Str → Option Value) (i : Nat) : Addr := match mg (nm i) with
  | some (.ref a) => a
  | _ => 0
/-- the defs among the records -/
noncomputable abbrev RecsHave (p : Program) : Prop := ∀ i ∈ fnIds, ∃ d ∈ recsOf p, d.name = nm i ∧ d.params = pr i ∧ d.body = bd i ∧ d.scope = sc i
theorem recs_of {p : Program} (h : (recsOf p).map (fun d => (d.name, d.params, d.body, d.scope)) = ([1, 2, 3, 6, 7, 8, 9, 10, 11, 13, 14, 16, 17, 18, 19, 20, 21] : List Nat).map fun i => (nm i, pr i, bd i, sc i)) : RecsHave p := fun i hi => by
  have hm : (nm i, pr i, bd i, sc i) ∈ (recsOf p).map (fun d => (d.name, d.params, d.body, d.scope)) := by
    rw [h]
    refine List.mem_map.mpr ⟨i, ?_, rfl⟩
    revert i hi
    decide
  obtain ⟨d, hd, e⟩ := List.mem_map.mp hm
  exact ⟨d, hd, congrArg (·.1) e, congrArg (·.2.1) e, congrArg (·.2.2.1) e, congrArg (·.2.2.2) e⟩
section
variable {p : Program} {loose : List Str} {mean : ExcName → Option Value} {mg mb : Str → Option Value} {h : Heap} {K : Frag} {tabs : List (Addr × Addr)}
theorem fn_top (T : Top p loose mean mg mb h) (hr : RecsHave p) {i : Nat} (hi : i ∈ fnIds) : ∃ o pm cd doc, mg (nm i) = some (.ref (faOf mg i)) ∧ h.get? (faOf mg i) = some o ∧ o.data = .func (docDef (nm i) (pr i) (bd i) (sc i) pm cd doc) ∧ h.CodeRec cd (nm i) := by
  obtain ⟨d, hd, e1, e2, e3, e4⟩ := hr i hi
  obtain ⟨a, o, pm, code, doc, h1, h2, h3, h4⟩ := T.fn d hd
  rw [e1] at h1 h3 h4
  rw [e2, e3, e4] at h3
  have e : faOf mg i = a := by unfold faOf; rw [h1]
  rw [e]
  exact ⟨o, pm, code, doc, h1, h2, h3, h4⟩
theorem code_ghost {cd : Value} {q : Str} (hT : TabsAt tabs h) (x : h.CodeRec cd q) : (ghostOf h tabs).CodeRec cd q := by
  obtain ⟨c, o, vs, t, e, ho, hd, hv⟩ := x
  refine ⟨c, o, vs, t, e, ghost_get hT ho (fun q => ?_), hd, hv⟩
  subst q
  cases hd
  simp at hv
theorem base_top (T : Top p loose mean mg mb h) (X : K.In h) (hT : TabsAt tabs h) (hr : RecsHave p)
    (hn : ∀ x ∈ btNames, nsIn K mainGlobals x = some none)
    (hb : nsIn K cStatics sharingNotToldKey = some none) (hl : valOf p "_DIV_LIMIT" = some (.int 4000)) : Base (faOf mg) mg mb (ghostOf h tabs) := by
  have T' := ghost_top hT T
  refine ⟨T'.g, T'.b, T'.nolimit, fun i hi => ?_, fun x hx => mg_none_of X T.g (hn x hx), fun x hx => T.builtins x ?_, ?_, ?_⟩
  · obtain ⟨o, pm, cd, doc, h1, h2, h3, h4⟩ := fn_top T hr hi
    exact ⟨h1, o, pm, cd, doc, ghost_get hT h2 (fun q => by rw [q] at h3; cases h3), h3, code_ghost hT h4⟩
  · intro e
    subst e
    revert hx
    decide +kernel
  · obtain ⟨v, h1, h2⟩ := T.const _ _ hl
    have := h2 h
    cases this
    exact ⟨_, h1⟩
  · obtain ⟨mc, h1, _⟩ := T.nodigits
    exact ⟨mc, ghost_ns hT h1, ns_none_of X h1 hb⟩
theorem ba_top {P : Addr} (T : Top p loose mean mg mb h) (hT : TabsAt tabs h) (hP : h.get? P = some (tabObj #[])) : (ghostOf h tabs).BuiltinsAt mg P := by
  obtain ⟨bm, ob, a1, a2, a3, a4, a5, a6⟩ := T.bmain
  refine ⟨bm, ob, a1, a2, fun e => ?_, fun e => ?_, ghost_get hT a3 (fun q => by rw [q] at a4; cases a4), a4, a5, a6⟩
  · obtain ⟨o, es, ep, ho, hd, _⟩ := T.g
    rw [← e, a3] at ho
    cases ho
    rw [a6] at hd; cases hd
  · rw [e, hP] at a3
    cases a3
    cases a4
theorem ind_top {i : Nat} {c P : Addr} (T : Top p loose mean mg mb h) (X : K.In h) (hT : TabsAt tabs h) (hr : RecsHave p) (hi : i ∈ fnIds) (ht : tabIn K (nm i) = some (c, P)) (hm : (c, P) ∈ tabs) : InD (faOf mg) mg (ghostOf h tabs) i c P := by
  obtain ⟨o, pm, cd, doc, h1, h2, h3, h4⟩ := fn_top T hr hi
  have e : cd = .ref c := law_code X T.g ht h1 h2 h3
  subst e
  refine ⟨⟨o, pm, doc, ghost_get hT h2 (fun q => by rw [q] at h3; cases h3), h3, code_ghost hT h4⟩, ?_, ba_top T hT (hT _ hm).2⟩
  have hall := ghost_code hT
  have : ∀ tabs h, CodeAll tabs h → ∀ q ∈ tabs, CodeHd h q.1 q.2 := by
    intro tabs h
    induction tabs with
    | nil => intro _ q hq; cases hq
    | cons r rs ih =>
      intro hc q hq
      rcases List.mem_cons.mp hq with rfl | hq
      · exact hc.1
      · exact ih hc.2 q hq
  exact this _ _ hall _ hm
theorem tabs_top (T : Top p loose mean mg mb h) (X : K.In h) (hr : RecsHave p) (h8 : ((recsOf p).find? (fun e => e.name == nm 8)).isSome = true) (h9 : ((recsOf p).find? (fun e => e.name == nm 9)).isSome = true) (hK : chk_ K = true) :
    ∃ c8 P8 c9 P9, tabIn K (nm 8) = some (c8, P8) ∧ tabIn K (nm 9) = some (c9, P9) ∧ P8 ≠ P9 ∧ nsIn K cStatics sharingNotToldKey = some none ∧ (∀ x ∈ btNames, nsIn K mainGlobals x = some none) ∧ TabsAt [(c9, P9), (c8, P8)] h := by
  unfold chk_ at hK
  rw [Bool.and_eq_true, Bool.and_eq_true] at hK
  obtain ⟨⟨k1, k2⟩, k3⟩ := hK
  split at k1
  · rename_i c8 P8 c9 P9 e8 e9
    refine ⟨c8, P8, c9, P9, e8, e9, fun q => by rw [q] at k1; simp at k1, ?_, fun x hx => ?_, ?_⟩
    · split at k2
      · assumption
      · cases k2
    · have := List.all_eq_true.mp k3 x hx
      split at this
      · assumption
      · cases this
    · obtain ⟨d8, hd8⟩ := Option.isSome_iff_exists.mp h8
      obtain ⟨d9, hd9⟩ := Option.isSome_iff_exists.mp h9
      intro q hq
      rcases List.mem_cons.mp hq with rfl | hq
      · exact tab_of T X hd9 e9
      · rw [List.mem_singleton.mp hq]
        exact tab_of T X hd8 e8
  · cases k1
theorem law_end {w : World} {gn : Array GenState} {d : Drawn} {t : Nat} {os : OsState} {fa₀ ax c8 P8 c9 P9 : Addr} {cd : Value} {h₁ : Heap} {m : Str → Option Value} {oc : Obj} {vs : List Value} {ns : List Int} {Q : Flow → Shared → Prop}
    (T : Top p loose mean mg mb h) (X : K.In h) (hr : RecsHave p) (hl : valOf p "_DIV_LIMIT" = some (.int 4000))
    (hall : tabIn K (nm 8) = some (c8, P8) ∧ tabIn K (nm 9) = some (c9, P9) ∧ P8 ≠ P9 ∧ nsIn K cStatics sharingNotToldKey = some none ∧ (∀ x ∈ btNames, nsIn K mainGlobals x = some none) ∧ TabsAt [(c9, P9), (c8, P8)] h)
    (F : Fr h h.objs.size h₁ m) (hm : m = fun _ => none) (N : News h h.objs.size h₁ [(h.objs.size + 1, oc)]) (hoc : oc.data = .cell (some (.ref ax)))
    (hL : h.IsList ax vs.toArray) (hI : IntsAre vs ns) (h63 : ns.length ≤ 63) (hbare : AllBare gn)
    (fin : ∀ h' t' gn', AllBare gn' → (∀ b o, (ghostOf h [(c9, P9), (c8, P8)]).get? b = some o → h'.get? b = some o) → GrownAll [(c9, P9), (c8, P8)] h' → Q (.ret (.bool true)) ⟨h', gn', d, t', os⟩) :
    wpAny (model pg w) (callerA.deeper (envOfC (nm 21) (sc 21) h.objs.size fa₀ cd)) (execs (bd 21) (envOfC (nm 21) (sc 21) h.objs.size fa₀ cd)) Q (fun _ _ => False) ⟨h₁, gn, d, t, os⟩ := by
  obtain ⟨h8, h9, hne, hb, hn, hT⟩ := hall
  subst hm
  have hnone : ∀ {b}, h.get? b = none → (ghostOf h [(c9, P9), (c8, P8)]).get? b = none := ghost_fresh
  have hLn : h.get? h.objs.size = none := none_above (Nat.le_refl _)
  have h8t : h.get? P8 = some (tabObj #[]) := (hT (c8, P8) (by simp)).2
  have h9t : h.get? P9 = some (tabObj #[]) := (hT (c9, P9) (by simp)).2
  have S0 : St (ghostOf h [(c9, P9), (c8, P8)]) h.objs.size (lc 21) (List.replicate 25 none) ([(h.objs.size + 1, oc)] ++ ([(P8, tabObj #[])] ++ ([(P9, tabObj #[])] ++ []))) h₁ := by
    refine ⟨?_, by rw [lc21_len]; rfl, fun b o e => F.keep b o (of_hideAll _ e), hnone hLn, ?_, ?_⟩
    · have e : slot (lc 21) (List.replicate 25 none) = fun _ => none := by
        funext y
        unfold slot
        rw [List.getElem?_replicate]
        split <;> rfl
      rw [e]; exact F.ns
    · intro q hq
      simp only [List.cons_append, List.nil_append, List.mem_cons, List.not_mem_nil, or_false] at hq
      rcases hq with rfl | rfl | rfl
      · have := N _ (.head _)
        exact ⟨this.1, this.2.1, hnone this.2.2⟩
      · exact ⟨F.keep _ _ h8t, Nat.ne_of_lt (Heap.lt_size h8t), hideAll_none _ (by simp)⟩
      · exact ⟨F.keep _ _ h9t, Nat.ne_of_lt (Heap.lt_size h9t), hideAll_none _ (by simp)⟩
    · have a8 : h.objs.size + 1 ≠ P8 := fun e => by have := Heap.lt_size h8t; rw [← e] at this; exact Nat.not_succ_lt_self this
      have a9 : h.objs.size + 1 ≠ P9 := fun e => by have := Heap.lt_size h9t; rw [← e] at this; exact Nat.not_succ_lt_self this
      simp [a8, a9, hne]
  obtain ⟨g', hk, hex, S⟩ := S0.freeze
  have B := base_top T X hT hr hn hb hl
  have M : DM (faOf mg) mg mb (ghostOf h [(c9, P9), (c8, P8)]) c8 P8 c9 P9 := ⟨B, ind_top T X hT hr (by decide) h8 (by simp), ind_top T X hT hr (by decide) h9 (by simp)⟩
  have hvl : vs.length = ns.length := by have := ints_len hI; lia
  refine law_walk (M.keeps hk) ⟨.inl rfl, .inl rfl⟩ rfl (show 1 + claimMargin + 1 + 60 < 1000 by decide) (show 4 + 3 + 100 < 9900 by decide) (Around.frames_deeper rfl) S ⟨oc, hex _ (.head _), hoc⟩ (Heap.IsList.at (ghost_list hT hL) fun o e => hk _ _ e) ?_ (by rw [List.size_toArray]; lia) fun h' t' gn' vals τ8' τ9' T2 gx S2 => ?_
  · intro v hv
    have hv' : v ∈ vs := by simpa using hv
    clear hv hL h63 hvl
    induction hI with
    | nil => cases hv'
    | cons i u _ ih => 
      rcases List.mem_cons.mp hv' with rfl | hv'
      · exact ⟨_, _, rfl⟩
      · exact ih hv'
  · refine fin h' t' gn' (gx hbare) (fun b o e => S2.keep _ _ (hk _ _ e)) ?_
    have grow : ∀ {P : Addr} {pos : Pos} {q : Str} {τ : List (Addr × Obj)}, TabO P pos q τ → (∀ r ∈ τ, h'.get? r.1 = some r.2) → GrownAt P h' := fun hT hin => by
      rcases hT with rfl | ⟨c', oc, vs, t, rfl, _⟩
      · exact ⟨_, hin _ (.head _)⟩
      · exact ⟨_, hin _ (.head _)⟩
    exact ⟨grow T2.t9 fun r hr => (S2.isOwn r (by simp [hr])).1, grow T2.t8 fun r hr => (S2.isOwn r (by simp [hr])).1, trivial⟩
end
end Mine
end
set_option maxRecDepth 100000 in
set_option maxHeartbeats 8000000 in
theorem PySem.Challenge.cw_ul0007_01_holds : PySem.Challenge.rw_ul0007_01.Holds := by
  w_on
  o_law
  o_head Mine.lawHook
  (case hw => w_witness2)
  intro w s₀ s₁ mg mb G Y fa o pm cd doc dV kV ho hd hcd hD hmg hg args vals as hpre hlay hrd hwl hlo
  obtain ⟨K, KX, hchk⟩ := Y
  have X := (Ground.X G).1
  have V := (Ground.X G).2
  refine Ground.open G ?_
  intro T B D TE TW
  try (refine guard_noD D (by decide +kernel) ?_; clear D)
  clear hmg
  obtain ⟨c8, P8, c9, P9, hall⟩ := Mine.tabs_top T KX (Mine.recs_of (by kernel_rfl)) (by kernel_rfl) (by kernel_rfl) hchk
  have hT9 := hall.2.2.2.2.2
  wrow_args hpre hlay hrd hwl hlo
  all_goals (
    first | refine callC_kw (enter_call ?_) | refine enter_call ?_
    w_top on
    refine Mine.kn_postG hT9 ?_
    w_call any ho hd hcd hD T F
    clear hd
    rename_i hL ra w1 r0 hI hr hc1 hc2 h₁ tk₁ ob hob N0 X0
    refine wpAny_mono (Mine.law_end (oc := ob) T KX (Mine.recs_of (by kernel_rfl)) (by kernel_rfl) hall F ?m N0 ?cell hL hI ?len (.of_eq hg) ?fin) (fun _ _ x => x) (fun _ _ x => x.elim)
    case m => rfl
    case cell => exact hob
    case len => omega
    case fin =>
      intro h' t' gn' hb hk hgr
      exact ⟨⟨.bool true, .bool true, [], rfl, fun _ => rfl, .bool true, (by kernel_rfl), rfl⟩, hk, rfl, hb, hgr⟩)

