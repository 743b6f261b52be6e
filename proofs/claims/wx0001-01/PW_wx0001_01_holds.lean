import PyProof.Rows.All
import Wide.All
import OpenK.AllK
import Wide.FinOn
import PySem.Challenge.RW_wx0001_01
open PySem PySem.W PyProof.Rows
set_option Elab.async false
set_option maxRecDepth 100000
set_option maxHeartbeats 8000000
namespace Mine
open_top hd for PySem.Challenge.rw_wx0001_01
end Mine

-- MDefs
namespace Mine
set_option maxRecDepth 100000
set_option maxHeartbeats 8000000
/-- a text of these code points -/
noncomputable abbrev S (x : List Nat) : Str := ⟨x.toArray⟩
theorem S_append (x y : List Nat) : S x ++ S y = S (x ++ y) := by
  show (⟨x.toArray ++ y.toArray⟩ : Str) = _
  simp [S]
theorem S_length (x : List Nat) : (S x).length = x.length := by
  show x.toArray.size = _
  simp
theorem S_inj {x y : List Nat} : S x = S y ↔ x = y := by
  constructor
  · intro h
    have := congrArg (fun s : Str => s.cps.toList) h
    simpa [S] using this
  · rintro rfl; rfl
/-- a token: a text, or a field's letter and its length -/
inductive Tk where
  | ch (x : List Nat)
  | fd (c n : Nat)
  deriving DecidableEq
noncomputable def Tk.rd : Tk → Dat
  | .ch x => .list [.str (PySem.Str.ofString "chars"), .str (S x)]
  | .fd c n => .list [.str (PySem.Str.ofString "field"), .str (S [c]), .int n]
noncomputable def Tk.tk : Tk → Dat
  | .ch x => .tuple [.str (PySem.Str.ofString "chars"), .str (S x)]
  | .fd c n => .tuple [.str (PySem.Str.ofString "field"), .tuple [.str (S [c]), .int n]]
/-- the object that bears a reader's token -/
inductive RIs : Tk → Obj → Prop where
  | ch {x : List Nat} (t0 t1 e : Nat) : RIs (.ch x) (W.listOf #[.str (PySem.Str.ofString "chars") t0, .str (S x) t1] e)
  | fd {c n : Nat} (t0 t1 t2 e : Nat) : RIs (.fd c n) (W.listOf #[.str (PySem.Str.ofString "field") t0, .str (S [c]) t1, .int n t2] e)
noncomputable def Tk.sz : Tk → Nat
  | .ch x => x.length + 1
  | .fd _ n => n + 1
noncomputable def szs (r : List Tk) : Nat := (r.map Tk.sz).sum
/-- the list at o under building: its tokens, the newest first; R the rest of the ledger -/
inductive Bld (o : Addr) (R : List (Addr × Obj)) : List Tk → List (Addr × Obj) → Prop where
  | nil {n : Nat} : OwnOff R [o] → Bld o R [] ((o, W.listOf #[] n) :: R)
  | cons {t : Tk} {r : List Tk} {vs : List Value} {b : Addr} {ob : Obj} {n : Nat} {old : List (Addr × Obj)} : RIs t ob → DatAll old vs (r.reverse.map Tk.rd) → OwnOff (old ++ R) [o, b] → o ≠ b → OwnOff R (old.map (·.1)) →
      Bld o R (t :: r) ((o, W.listOf (vs ++ [Value.ref b]).toArray n) :: (b, ob) :: (old ++ R))
noncomputable def addR (x : List Nat) : List Tk → List Tk
  | .ch y :: r => .ch (y ++ x) :: r
  | r => .ch x :: r
theorem szs_cons (t : Tk) (r : List Tk) : szs (t :: r) = t.sz + szs r := by simp [szs]
theorem len_le_szs (r : List Tk) : r.length ≤ szs r := by
  induction r with
  | nil => simp [szs]
  | cons t r ih => rw [szs_cons, List.length_cons]; have : 1 ≤ t.sz := by cases t <;> simp [Tk.sz] ; 
                   omega
theorem RIs.dat {t : Tk} {ob : Obj} {b : Addr} {news : List (Addr × Obj)} (h : RIs t ob) (hm : (b, ob) ∈ news) : DatIn news (.ref b) t.rd := by
  cases h with
  | ch t0 t1 e => exact .list (vs := [_, _]) hm (.cons (.str _ _) (.cons (.str _ _) .nil))
  | fd t0 t1 t2 e => exact .list (vs := [_, _, _]) hm (.cons (.str _ _) (.cons (.str _ _) (.cons (.int _ _) .nil)))
theorem Bld.dat {o : Addr} {R : List (Addr × Obj)} {r : List Tk} {nx : List (Addr × Obj)} (h : Bld o R r nx) : DatIn nx (.ref o) (.list (r.reverse.map Tk.rd)) := by
  cases h with
  | nil _ => exact .list (vs := []) (.head _) .nil
  | cons hr hd _ _ _ =>
    refine .list (.head _) ?_
    simp only [List.reverse_cons, List.map_append, List.map_cons, List.map_nil]
    exact (hd.mono fun p hp => .tail _ (.tail _ (List.mem_append_left _ hp))).append (.one (hr.dat (.tail _ (.head _))))
theorem Bld.rest {o : Addr} {R : List (Addr × Obj)} {r : List Tk} {nx : List (Addr × Obj)} (h : Bld o R r nx) : ∀ p ∈ R, p ∈ nx := by
  cases h with
  | nil _ => exact fun p hp => .tail _ hp
  | cons _ _ _ _ _ => exact fun p hp => .tail _ (.tail _ (List.mem_append_right _ hp))
/-- a new token laid on a building -/
theorem Bld.snoc {o b : Addr} {R : List (Addr × Obj)} {t t' : Tk} {r : List Tk} {vs : List Value} {c : Addr} {ob ob' : Obj} {n' : Nat} {old : List (Addr × Obj)}
    (hr : RIs t ob) (hd : DatAll old vs (r.reverse.map Tk.rd)) (ho : OwnOff (old ++ R) [o, b]) (hob : o ≠ b) (hR : OwnOff R (old.map (·.1))) (hr' : RIs t' ob') (hc : ∀ p ∈ old ++ R, p.1 < c) (hoc : o < c) (hbc : b < c) :
    Bld o R (t' :: t :: r) ((o, W.listOf ((vs ++ [Value.ref b]) ++ [Value.ref c]).toArray n') :: (c, ob') :: (((b, ob) :: old) ++ R)) := by
  refine .cons hr' ?_ ?_ (Nat.ne_of_lt hoc) ?_
  · simp only [List.reverse_cons, List.map_append, List.map_cons, List.map_nil]
    exact (hd.mono fun p hp => .tail _ hp).append (.one (hr.dat (.head _)))
  · intro p hp q hq
    simp only [List.mem_cons, List.not_mem_nil, or_false] at hq
    rcases List.mem_append.mp hp with hp | hp
    · rcases List.mem_cons.mp hp with rfl | hp
      · rcases hq with rfl | rfl
        · exact Ne.symm hob
        · exact Nat.ne_of_lt hbc
      · rcases hq with rfl | rfl
        · exact ho p (List.mem_append_left _ hp) _ (.head _)
        · exact Nat.ne_of_lt (hc p (List.mem_append_left _ hp))
    · rcases hq with rfl | rfl
      · exact ho p (List.mem_append_right _ hp) _ (.head _)
      · exact Nat.ne_of_lt (hc p (List.mem_append_right _ hp))
  · intro p hp q hq
    simp only [List.map_cons, List.mem_cons] at hq
    rcases hq with rfl | hq
    · exact ho p (List.mem_append_right _ hp) _ (.tail _ (.head _))
    · exact hR p hp q hq
section
variable {w : World} {p : Program} {loose : List Str} {mean : ExcName → Option Value} {mg mb : Str → Option Value}
  {dp un : Nat} {gd : Option (List Code)} {cn : Str} {cs : Scope} {a : Addr} {ccd : Value} {cl : List (Str × Addr)} {outer : List Env} {A₀ : Around} {base h₀ : Heap} {L : Addr} {m : Str → Option Value} {s : Shared} {Q E : Value → Shared → Prop}

end
end Mine

-- MDefs2
namespace Mine
set_option maxRecDepth 100000
set_option maxHeartbeats 8000000
/-- the letters of fields -/
noncomputable def isF (c : Nat) : Bool := [121, 77, 100, 69, 99, 72, 79, 70, 83].contains c
noncomputable def incF (c : Nat) : List Tk → List Tk
  | .fd d n :: r => if d = c then .fd d (n + 1) :: r else .fd c 1 :: .fd d n :: r
  | r => .fd c 1 :: r
/-- the reader -/
noncomputable def readR : List Nat → Bool → List Tk → List Tk × Bool
  | [], ins, r => (r, ins)
  | c :: l, ins, r =>
    if c = 39 then
      if l.head? = some 39 then readR (l.drop 1) ins (addR [39] r) else readR l (!ins) r
    else if ins || !isF c then readR l ins (addR [c] r) else readR l ins (incF c r)
  termination_by l => l.length
  decreasing_by
    all_goals simp only [List.length_drop, List.length_cons]; omega
theorem readR_qq (l : List Nat) (ins : Bool) (r : List Tk) : readR (39 :: 39 :: l) ins r = readR l ins (addR [39] r) := by
  rw [readR]; simp
theorem readR_q {l : List Nat} (h : l.head? ≠ some 39) (ins : Bool) (r : List Tk) : readR (39 :: l) ins r = readR l (!ins) r := by
  rw [readR, if_pos rfl, if_neg h]
theorem readR_t {c : Nat} {l : List Nat} (h : c ≠ 39) {ins : Bool} (hi : (ins || !isF c) = true) (r : List Tk) : readR (c :: l) ins r = readR l ins (addR [c] r) := by
  rw [readR, if_neg h, if_pos hi]
theorem readR_f {c : Nat} {l : List Nat} (h : c ≠ 39) {ins : Bool} (hi : (ins || !isF c) = false) (r : List Tk) : readR (c :: l) ins r = readR l ins (incF c r) := by
  rw [readR, if_neg h, if_neg (by rw [hi]; exact Bool.false_ne_true)]
theorem szs_addR (c : Nat) (r : List Tk) : szs (addR [c] r) ≤ szs r + 2 := by
  unfold addR
  split
  · simp only [szs_cons, Tk.sz, List.length_append, List.length_cons, List.length_nil]; omega
  · simp only [szs_cons, Tk.sz, List.length_cons, List.length_nil]; omega
theorem szs_incF (c : Nat) (r : List Tk) : szs (incF c r) ≤ szs r + 2 := by
  unfold incF
  split
  · split
    · simp only [szs_cons, Tk.sz]; omega
    · simp only [szs_cons, Tk.sz]; omega
  · simp only [szs_cons, Tk.sz]; omega
theorem drop_at {x : List Nat} {k c : Nat} (h : x[k]? = some c) : x.drop k = c :: x.drop (k + 1) := by
  obtain ⟨hl, he⟩ := List.getElem?_eq_some_iff.mp h
  rw [List.drop_eq_getElem_cons hl, he]
theorem head_drop (x : List Nat) (k : Nat) : (x.drop k).head? = x[k]? := by simp
section
variable {w : World} {p : Program} {loose : List Str} {mean : ExcName → Option Value} {mg mb : Str → Option Value}
  {dp un : Nat} {gd : Option (List Code)} {cn : Str} {cs : Scope} {a : Addr} {ccd : Value} {cl : List (Str × Addr)} {outer : List Env} {A₀ : Around} {base h₀ : Heap} {L : Addr} {m : Str → Option Value} {s : Shared} {Q E : Value → Shared → Prop}

end
end Mine

-- MDefs3
namespace Mine
set_option maxRecDepth 100000
set_option maxHeartbeats 8000000
theorem allLt_iff {d : Addr} : ∀ {l : List (Addr × Obj)}, AllLt d l ↔ ∀ p ∈ l, p.1 < d
  | [] => ⟨fun _ _ h => (nomatch h), fun _ => trivial⟩
  | p :: l => ⟨fun h q hq => by
      rcases List.mem_cons.mp hq with rfl | hq
      · exact h.1
      · exact allLt_iff.mp h.2 q hq, fun h => ⟨h p (.head _), allLt_iff.mpr fun q hq => h q (.tail _ hq)⟩⟩
theorem news_swap {h₀ h : Heap} {L : Addr} {x y : Addr × Obj} {R : List (Addr × Obj)} (N : News h₀ L h (x :: y :: R)) : News h₀ L h (y :: x :: R) := fun p hp => N p (by
  simp only [List.mem_cons] at hp ⊢
  rcases hp with h | h | h
  · exact .inr (.inl h)
  · exact .inl h
  · exact .inr (.inr h))
/-- a building opened at its newest token -/
structure BOpen (o : Addr) (R : List (Addr × Obj)) (r : List Tk) (vs : List Value) (b : Addr) (old rest : List (Addr × Obj)) : Prop where
  rest_eq : old ++ R = rest
  dat : DatAll old vs (r.reverse.map Tk.rd)
  ne : (o : Nat) ≠ b
  ne' : (b : Nat) ≠ o
  off : OwnOff R (old.map (·.1))
theorem bld_snoc {o b : Addr} {R : List (Addr × Obj)} {t t' : Tk} {r : List Tk} {vs : List Value} {c : Addr} {ob ob' : Obj} {n' : Nat} {old rest : List (Addr × Obj)}
    (hr : RIs t ob) (bo : BOpen o R r vs b old rest) (ho : OwnOff rest [o, b]) (hr' : RIs t' ob') (hoc : o < c) (hbc : b < c) (hc : AllLt c rest) :
    Bld o R (t' :: t :: r) ((o, W.listOf ((vs ++ [Value.ref b]) ++ [Value.ref c]).toArray n') :: (c, ob') :: (b, ob) :: rest) := by
  obtain ⟨rfl, hd, hne, _, hoff⟩ := bo
  exact .snoc hr hd ho hne hoff hr' (allLt_iff.mp hc) hoc hbc
theorem bld_same {o b : Addr} {R : List (Addr × Obj)} {t : Tk} {r : List Tk} {vs : List Value} {ob : Obj} {n : Nat} {old rest : List (Addr × Obj)}
    (bo : BOpen o R r vs b old rest) (ho : OwnOff rest [o, b]) (hr : RIs t ob) : Bld o R (t :: r) ((o, W.listOf (vs ++ [Value.ref b]).toArray n) :: (b, ob) :: rest) := by
  obtain ⟨rfl, hd, hne, _, hoff⟩ := bo
  exact .cons hr hd ho hne hoff
theorem bld_one {o c : Addr} {R : List (Addr × Obj)} {t : Tk} {ob : Obj} {n : Nat} (ho : OwnOff R [o]) (hr : RIs t ob) (hoc : o < c) (hc : ∀ p ∈ R, p.1 < c) : Bld o R [t] ((o, W.listOf #[Value.ref c] n) :: (c, ob) :: R) := by
  refine .cons (vs := []) (old := []) hr .nil ?_ (Nat.ne_of_lt hoc) (fun _ _ _ h => (nomatch h))
  intro p hp q hq
  simp only [List.mem_cons, List.not_mem_nil, or_false] at hq
  rcases hq with rfl | rfl
  · exact ho p hp _ (.head _)
  · exact Nat.ne_of_lt (hc p hp)
theorem allLt_off1 {d : Addr} {R : List (Addr × Obj)} (h : AllLt d R) : OwnOff R [d] := by
  intro p hp q hq
  simp only [List.mem_cons, List.not_mem_nil, or_false] at hq
  subst hq
  exact Nat.ne_of_lt (allLt_iff.mp h p hp)
theorem ne_addN {k d : Nat} (j : Nat) (h : k < d) : k ≠ d + j := by omega
theorem allLt_off4 {d : Addr} {R : List (Addr × Obj)} (h : AllLt d R) : OwnOff R [d + 1 + 1 + 1 + 1, d + 1 + 1 + 1, d + 1 + 1, d + 1] := by
  intro p hp q hq
  have h2 := allLt_iff.mp h p hp
  simp only [List.mem_cons, List.not_mem_nil, or_false] at hq
  rcases hq with rfl | rfl | rfl | rfl
  · exact ne_addN 4 h2
  · exact ne_addN 3 h2
  · exact ne_addN 2 h2
  · exact ne_addN 1 h2
theorem allLt_ne {d : Addr} {R : List (Addr × Obj)} (h : AllLt d R) : ∀ p ∈ R, p.1 ≠ d := fun p hp => Nat.ne_of_lt (allLt_iff.mp h p hp)
theorem allLt_neN {d : Addr} {R : List (Addr × Obj)} (j : Nat) (h : AllLt d R) : ∀ p ∈ R, p.1 ≠ d + j := fun p hp => by have : (p.1 : Nat) < d := allLt_iff.mp h p hp; exact ne_addN j this
section
variable {w : World} {p : Program} {loose : List Str} {mean : ExcName → Option Value} {mg mb : Str → Option Value}
  {dp un : Nat} {gd : Option (List Code)} {cn : Str} {cs : Scope} {a : Addr} {ccd : Value} {cl : List (Str × Addr)} {outer : List Env} {A₀ : Around} {base h₀ : Heap} {L : Addr} {m : Str → Option Value} {s : Shared} {Q E : Value → Shared → Prop}

end
end Mine

-- MLines
namespace Mine
set_option maxRecDepth 100000
set_option maxHeartbeats 8000000
theorem my_truthyS {M : World} {A : Around} {h₀ : Heap} {L o : Addr} {news : List (Addr × Obj)} {prog : Program} {s : Shared} {E : Value → Shared → Prop} {vs : List Value} {x : Value} {n : Nat} {Q : Bool → Shared → Prop}
    (N : News h₀ L s.heap news) (hm : (o, listOf (vs ++ [x]).toArray n) ∈ news) (hf : vs.length < 100000) (h : ∀ k, Q true { s with toks := k }) : wpAny (model prog M) A (truthy (.ref o)) Q E s := by
  refine wpAny_truthy_list (items := (vs ++ [x]).toArray) ⟨_, (N _ hm).1, rfl, n, rfl⟩ (by simp; omega) ?_
  have e : (!(vs ++ [x]).toArray.isEmpty) = true := by simp
  rw [e]; exact h _
theorem my_last {M : World} {A : Around} {h₀ : Heap} {L o : Addr} {news : List (Addr × Obj)} {prog : Program} {s : Shared} {E : Value → Shared → Prop} {vs : List Value} {x : Value} {n : Nat} {u : Tok} {Q : Value → Shared → Prop} {value slice : Expr}
    (N : News h₀ L s.heap news) (hm : (o, listOf (vs ++ [x]).toArray n) ∈ news) (h : Q x s)
    (hs : subscripted slice false (.ref o) (.int (-1) u) = operate [.ref o, .int (-1) u] (getItem (.ref o) (.int (-1) u)) := by with_unfolding_all rfl) : wpAny (model prog M) A (subscriptTail value slice (.ref o) (.int (-1) u)) Q E s := by
  have hl : s.heap.IsList o (vs ++ [x]).toArray := ⟨_, (N _ hm).1, rfl, n, rfl⟩
  refine tail_any hl.typeIs slot_list_getitem.lookup (wpAny_getItem_list_neg (x := x) hl (by decide) ?_ (by decide) ?_ h) hs
  · simp only [List.size_toArray, List.length_append, List.length_cons, List.length_nil]; omega
  · have e : (-1 + ((vs ++ [x]).toArray.size : Int)).toNat = vs.length := by simp only [List.size_toArray, List.length_append, List.length_cons, List.length_nil]; omega
    rw [e]; simp
theorem my_tr1 {M : World} {A : Around} {prog : Program} {s : Shared} {E : Value → Shared → Prop} {c : Nat} {t : Tok} {Q : Bool → Shared → Prop} (h : ∀ k, Q true { s with toks := k }) : wpAny (model prog M) A (truthy (.str (S [c]) t)) Q E s := by
  refine P.truthy_str (by simp [S_length]) ?_
  have e : (((S [c]).length : Int) != 0) = true := by rw [S_length]; rfl
  rw [e]; exact h _
theorem my_tr0 {M : World} {A : Around} {prog : Program} {s : Shared} {E : Value → Shared → Prop} {t : Tok} {Q : Bool → Shared → Prop} (h : ∀ k, Q false { s with toks := k }) : wpAny (model prog M) A (truthy (.str (S []) t)) Q E s := by
  refine P.truthy_str (by simp [S_length]) ?_
  have e : (((S []).length : Int) != 0) = false := by rw [S_length]; rfl
  rw [e]; exact h _
theorem my_first {M : World} {A : Around} {h₀ : Heap} {L o : Addr} {news : List (Addr × Obj)} {prog : Program} {s : Shared} {E : Value → Shared → Prop} {x : Value} {n : Nat} {u : Tok} {Q : Value → Shared → Prop} {value slice : Expr}
    (N : News h₀ L s.heap news) (hm : (o, listOf #[x] n) ∈ news) (h : Q x s)
    (hs : subscripted slice false (.ref o) (.int 0 u) = operate [.ref o, .int 0 u] (getItem (.ref o) (.int 0 u)) := by with_unfolding_all rfl) : wpAny (model prog M) A (subscriptTail value slice (.ref o) (.int 0 u)) Q E s := by
  have hl : s.heap.IsList o #[x] := ⟨_, (N _ hm).1, rfl, n, rfl⟩
  exact tail_any hl.typeIs slot_list_getitem.lookup (wpAny_getItem_list (x := x) hl (by decide) (by decide) rfl h) hs
section
variable {w : World} {p : Program} {loose : List Str} {mean : ExcName → Option Value} {mg mb : Str → Option Value}
  {dp un : Nat} {gd : Option (List Code)} {cn : Str} {cs : Scope} {a : Addr} {ccd : Value} {cl : List (Str × Addr)} {outer : List Env} {A₀ : Around} {base h₀ : Heap} {L : Addr} {m : Str → Option Value} {s : Shared} {Q E : Value → Shared → Prop}

end
end Mine

-- MStr
namespace Mine
set_option maxRecDepth 100000
set_option maxHeartbeats 8000000
theorem S_cps (x : List Nat) : (S x).cps.toList = x := by simp [S]
theorem item_S {x : List Nat} {k : Nat} {c : Nat} (h : x[k]? = some c) : Txt.item (S x) (k : Int) = S [c] := by
  have h1 : (S x).cps[((k : Nat) : Int).toNat]? = some c := by
    rw [← Array.getElem?_toList, S_cps]; simpa using h
  have h2 := PySem.StrLaws.at_nonneg (x := S x) (i := (k : Int)) (by omega) h1
  unfold Txt.item Txt.charAt
  rw [h2]; rfl
theorem slice_clip (x : Str) {k : Nat} (h : k ≤ x.length) : Txt.slice x (some (k : Int)) (some ((k : Int) + 1)) = Txt.slice x (some (k : Int)) (some ((min (k + 1) x.length : Nat) : Int)) := by
  have e : PySem.Builtin.Str.strSliceIndices (some (k : Int)) (some ((k : Int) + 1)) 1 x.length = PySem.Builtin.Str.strSliceIndices (some (k : Int)) (some ((min (k + 1) x.length : Nat) : Int)) 1 x.length := by
    unfold PySem.Builtin.Str.strSliceIndices
    have h1 : ¬ ((k : Int) + 1 < 0) := by omega
    have h2 : ¬ (((min (k + 1) x.length : Nat) : Int) < 0) := by omega
    have h3 : max (0 : Int) (min ((k : Int) + 1) x.length) = max (0 : Int) (min (((min (k + 1) x.length : Nat) : Int)) x.length) := by omega
    simp only [h1, h2, if_false, show ((1 : Int) > 0) by decide, if_true, h3]
  unfold Txt.slice
  rw [e]
theorem slice_S {x : List Nat} {k : Nat} (h : k ≤ x.length) : Txt.slice (S x) (some (k : Int)) (some ((k : Int) + 1)) = S ((x.drop k).take 1) := by
  rw [slice_clip (S x) (by rw [S_length]; exact h)]
  have e := PySem.StrLaws.sliceText_nat (S x) (a := k) (b := min (k + 1) (S x).length) (by rw [S_length]; omega) (Nat.min_le_right _ _)
  have e2 : Txt.slice (S x) (some (k : Int)) (some ((min (k + 1) (S x).length : Nat) : Int)) = PySem.StrLaws.sliceText (S x) (some (k : Int)) (some ((min (k + 1) (S x).length : Nat) : Int)) := rfl
  rw [e2, e, S_cps, S_length]
  show S _ = S _
  congr 1
  by_cases hk : k < x.length
  · rw [show min (k + 1) x.length - k = 1 by omega]
  · have : x.drop k = [] := List.drop_eq_nil_of_le (by omega)
    rw [this]; simp
theorem S_beq {x y : List Nat} : (S x == S y) = decide (x = y) := by
  by_cases h : x = y
  · subst h; simp
  · rw [decide_eq_false h]; exact beq_eq_false_iff_ne.mpr fun e => h (S_inj.mp e)
theorem q_lit : PySem.Str.ofString "'" = S [39] := by decide +kernel
theorem letters_lit : PySem.Str.ofString "yMdEcHOFS" = S [121, 77, 100, 69, 99, 72, 79, 70, 83] := by decide +kernel
theorem beq_q {c : Nat} : (S [c] == PySem.Str.ofString "'") = decide (c = 39) := by
  rw [q_lit, S_beq]
  by_cases h : c = 39 <;> simp [h]
theorem in_letters {c : Nat} : (!(PySem.Builtin.Str.occurrences (PySem.Str.ofString "yMdEcHOFS") (S [c]) 0 (PySem.Str.ofString "yMdEcHOFS").length 1).isEmpty) = isF c := by
  rw [show (S [c]) = (⟨#[c]⟩ : Str) from rfl, PySem.StrLaws.found_one, letters_lit, S_cps]
  unfold isF
  by_cases h : c ∈ [121, 77, 100, 69, 99, 72, 79, 70, 83]
  · rw [decide_eq_true h]; exact (List.contains_iff_mem.mpr h).symm
  · rw [decide_eq_false h]
    cases q : [121, 77, 100, 69, 99, 72, 79, 70, 83].contains c with
    | false => rfl
    | true => exact absurd (List.contains_iff_mem.mp q) h
section
variable {w : World} {p : Program} {loose : List Str} {mean : ExcName → Option Value} {mg mb : Str → Option Value}
  {dp un : Nat} {gd : Option (List Code)} {cn : Str} {cs : Scope} {a : Addr} {ccd : Value} {cl : List (Str × Addr)} {outer : List Env} {A₀ : Around} {base h₀ : Heap} {L : Addr} {m : Str → Option Value} {s : Shared} {Q E : Value → Shared → Prop}

end
end Mine

-- MLoop
namespace Mine
set_option maxRecDepth 100000
set_option maxHeartbeats 8000000
/-- the end of a turn: a new letter c', its ledger, the names that it says; own: the iterator's objects -/
noncomputable def MEnd {σ : Type} (g : Heap) (L : Addr) (s : Shared) (Led : σ → List (Addr × Obj)) (ps : σ → List (Str × Value)) (Facts : Nat → σ → Prop) (stored : List Str) (m₀ : Str → Option Value) (own : List (Addr × Obj)) (i : Nat) (s₂ : Shared) : Prop :=
  ∃ (c' : σ) (h' : Heap) (tk : Nat) (m' : Str → Option Value) (news' : List (Addr × Obj)), s₂ = { s with heap := h', toks := tk } ∧ Fr g L h' m' ∧ News g L h' news' ∧ (∀ p ∈ Led c', p ∈ news') ∧ (∀ p ∈ own, p ∈ news') ∧ OwnOff own ((Led c').map (·.1)) ∧ Facts i c' ∧ (∀ p ∈ ps c', m' p.1 = some p.2) ∧ (∀ z, (∀ p ∈ ps c', z ≠ p.1) → stored.contains z = false → m' z = m₀ z)
noncomputable def MPost {σ : Type} (g : Heap) (L : Addr) (s : Shared) (Led : σ → List (Addr × Obj)) (ps : σ → List (Str × Value)) (Facts : Nat → σ → Prop) (stored : List Str) (m₀ : Str → Option Value) (own : List (Addr × Obj)) (Q : Flow → Shared → Prop) (i : Nat) (f : Flow) (s₂ : Shared) : Prop :=
  match f with
  | .ret v => Q (.ret v) s₂
  | .brk => Q .next s₂
  | _ => MEnd g L s Led ps Facts stored m₀ own i s₂
section
variable {prog : Program} {w : World} {A : Around} {E : Value → Shared → Prop} {Q : Flow → Shared → Prop} {s : Shared} {env : Env} {g : Heap} {target : Expr} {body : List Stmt}
/-- a loop over whatever turns, by what holds of a letter; the things on the side (fx) that stay, stay -/
theorem mturns {σ : Type} {I : Addr} {fp wr : List Addr} {n : Nat} {P Md : Nat → Value → Heap → Prop} {St : Nat → Heap → Prop} {m₀ : Str → Option Value} (Led : σ → List (Addr × Obj)) (ps : σ → List (Str × Value)) (Facts : Nat → σ → Prop) (stored : List Str) (c₀ : σ) (fx : List (Addr × Obj))
    (W : KTurns prog w A target I fp wr n P Md St) (hLf : env.locals ∉ fp) (hwr : ∀ b ∈ wr, g.get? b = none) (hfx : ∀ i c, Facts i c → ∀ p ∈ fx, p ∈ Led c) (hsub : ∀ a ∈ fp, a ∈ wr ∨ (∃ o, (a, o) ∈ fx) ∨ ∃ o, g.get? a = some o) (hwf : ∀ b ∈ wr, b ∈ fp) (hob : ∀ i h, St i h → ∀ b ∈ wr, ∃ o, h.get? b = some o)
    (hst : St 0 s.heap) (F : Fr g env.locals s.heap m₀) (N : News g env.locals s.heap (Led c₀)) (hnw : ∀ p ∈ Led c₀, p.1 ∉ wr) (hf : Facts 0 c₀) (hk : ∀ p ∈ ps c₀, m₀ p.1 = some p.2)
    (turn : ∀ i v (c : σ) (u : Str → Option Value) h tk own, i < n → P i v h → Facts i c → OwnOff own ((Led c).map (·.1)) →
      Fr g env.locals h (kstB (fun z => if stored.contains z then u z else m₀ z) (ps c)) → News g env.locals h (Led c ++ own) →
      wpAny (model prog w) A (assign target env v) (fun _ s₃ => wpAny (model prog w) A (execs body env) (MPost g env.locals { s with heap := h, toks := tk } Led ps Facts stored m₀ own Q (i + 1)) E s₃) E { s with heap := h, toks := tk })
    (done : ∀ (c : σ) (u : Str → Option Value) h tk, Facts n c → Fr g env.locals h (kstB (fun z => if stored.contains z then u z else m₀ z) (ps c)) → News g env.locals h (Led c) → Q .next { s with heap := h, toks := tk }) :
    TurnsAt prog w A g env target body Q E (.ref I) s := by
  refine ⟨I, fp, wr, n, P, Md, St, m₀, Led c₀, fun i m nx => ∃ c : σ, nx = Led c ∧ Facts i c ∧ (∀ p ∈ ps c, m p.1 = some p.2) ∧ (∀ z, (∀ p ∈ ps c, z ≠ p.1) → stored.contains z = false → m z = m₀ z),
    rfl, W, hLf, hwr, hnw, hst, F, N, ⟨c₀, rfl, hf, hk, fun _ _ _ => rfl⟩, ?_, ?_⟩
  · rintro i v m₁ nx h tk own hi hP ⟨c, rfl, hf', h1, h2⟩ hoff hown hget hall hst' F₁ N₁
    have hofx : OwnOff (own.filter fun p => decide (p.1 ∈ wr)) ((Led c).map (·.1)) := by
      intro p hp b hb e
      obtain ⟨q, hq, rfl⟩ := List.mem_map.mp hb
      have hw : p.1 ∈ wr := by simpa using (List.mem_filter.mp hp).2
      exact hoff q hq (e ▸ hw)
    have N₂ : News g env.locals h (Led c ++ own.filter fun p => decide (p.1 ∈ wr)) := fun p hp => N₁ p ((List.mem_append.mp hp).elim (fun h => List.mem_append.mpr (.inr h)) fun h => List.mem_append.mpr (.inl ((List.mem_filter.mp h).1)))
    refine wpAny_mono (turn i v c m₁ h tk _ hi hP hf' hofx (ksw_fr h1 h2 F₁) N₂) (fun _ s₃ h₃ => wpAny_mono h₃ (fun f s₄ p => ?_) fun _ _ e => e) fun _ _ e => e
    have fin : MEnd g env.locals { s with heap := h, toks := tk } Led ps Facts stored m₀ (own.filter fun p => decide (p.1 ∈ wr)) (i + 1) s₄ → LoopStepU g env.locals wr own (fun m nx => ∃ c : σ, nx = Led c ∧ Facts (i + 1) c ∧ (∀ p ∈ ps c, m p.1 = some p.2) ∧ (∀ z, (∀ p ∈ ps c, z ≠ p.1) → stored.contains z = false → m z = m₀ z)) { s with heap := h, toks := tk } .next s₄ := by
      rintro ⟨c', h', tk', m', news', rfl, F', N', hn, ho, ha, hf9, hk9, hr9⟩
      refine ⟨rfl, h', tk', m', Led c', rfl, F', fun p hp => ?_, fun p hp hq => ?_, c', rfl, hf9, hk9, hr9⟩
      · rcases List.mem_append.mp hp with hp' | hp'
        · by_cases hw : p.1 ∈ wr
          · exact N' p (ho p (List.mem_filter.mpr ⟨hp', by simpa using hw⟩))
          · rcases hsub p.1 (hown p hp') with h3 | ⟨o, h3⟩ | ⟨o, h3⟩
            · exact absurd h3 hw
            · have h4 := N₁ p (List.mem_append_left _ hp')
              have h5 := N₁ (p.1, o) (List.mem_append_right _ (hfx i c hf' _ h3))
              have h6 : p = (p.1, o) := Prod.ext rfl (by
                have e1 := h4.1
                have e2 := h5.1
                rw [e1] at e2
                exact Option.some.inj e2)
              rw [h6]
              exact N' _ (hn _ (hfx (i + 1) c' hf9 _ h3))
            · have h4 := (N₁ p (List.mem_append_left _ hp')).2.2
              rw [h3] at h4; cases h4
        · exact N' p (hn p hp')
      · obtain ⟨o, hbo⟩ := hob _ _ hst' _ hq
        have hm := hall _ (hwf _ hq) (hwr _ hq) o hbo
        exact ha _ (List.mem_filter.mpr ⟨hm, by simpa using hq⟩) p.1 (List.mem_map.mpr ⟨p, hp, rfl⟩) rfl
    cases f with
    | ret v => exact .ret p
    | brk => exact .brk p
    | next => exact .next (fin p)
    | cont => exact .cont (fin p)
  · rintro h' tk m' nx F' N' _ ⟨c, rfl, hf', h1, h2⟩
    exact done c m' h' tk hf' (ksw_fr h1 h2 F') N'
/-- over a list that stands on the ledger -/
theorem mlist {σ : Type} {l : Addr} {vs : List Value} {nn : Nat} {m₀ : Str → Option Value} (Led : σ → List (Addr × Obj)) (ps : σ → List (Str × Value)) (Facts : Nat → σ → Prop) (stored : List Str) (c₀ : σ)
    (hh : A.handled = none) (hl : ∀ i c, Facts i c → (l, W.listOf vs.toArray nn) ∈ Led c)
    (F : Fr g env.locals s.heap m₀) (N : News g env.locals s.heap (Led c₀)) (hf : Facts 0 c₀) (hk : ∀ p ∈ ps c₀, m₀ p.1 = some p.2)
    (turn : ∀ i v (c : σ) (u : Str → Option Value) h tk own, vs[i]? = some v → Facts i c → OwnOff own ((Led c).map (·.1)) →
      Fr g env.locals h (kstB (fun z => if stored.contains z then u z else m₀ z) (ps c)) → News g env.locals h (Led c ++ own) →
      wpAny (model prog w) A (assign target env v) (fun _ s₃ => wpAny (model prog w) A (execs body env) (MPost g env.locals { s with heap := h, toks := tk } Led ps Facts stored m₀ own Q (i + 1)) E s₃) E { s with heap := h, toks := tk })
    (done : ∀ (c : σ) (u : Str → Option Value) h tk, Facts vs.length c → Fr g env.locals h (kstB (fun z => if stored.contains z then u z else m₀ z) (ps c)) → News g env.locals h (Led c) → Q .next { s with heap := h, toks := tk }) :
    wpAny (model prog w) A (pyIter (.ref l)) (fun it s₂ => TurnsAt prog w A g env target body Q E it s₂) E s := by
  have hol : s.heap.get? l = some (W.listOf vs.toArray nn) := (N _ (hl 0 c₀ hf)).1
  have hls : s.heap.IsList l vs.toArray := ⟨_, hol, rfl, nn, rfl⟩
  have hne : l ≠ s.heap.objs.size := Nat.ne_of_lt (Heap.lt_size hol)
  refine wpAny_pyIter_list hls ?_
  have WK := Walks.list (prog := prog) (w := w) hh s.heap.objs.size l hne vs.toArray
  have hlen : vs.toArray.size = vs.length := by simp
  rw [hlen] at WK
  refine mturns (I := s.heap.objs.size) Led ps Facts stored c₀ [(l, W.listOf vs.toArray nn)] (KTurns.ofWalks (target := target) WK (fun i v s' Q' E' hst hQ' => letGo_listiter hst.1 hQ')) ?_ ?_ ?_ ?_ ?_ ?_ ⟨⟨_, Heap.get?_push_size _ rfl, rfl, rfl⟩, hls.at fun o e => Heap.get?_push_of_some _ e⟩ (F.push _) (fun p hp => ⟨Heap.get?_push_of_some _ (N p hp).1, (N p hp).2⟩) ?_ hf hk ?_ ?_
  · intro hm
    rcases List.mem_cons.mp hm with e | hm
    · exact absurd F.ns.lt (e ▸ Nat.lt_irrefl _)
    · exact (N _ (hl 0 c₀ hf)).2.1 ((List.mem_singleton.mp hm).symm)
  · intro b hb
    rw [List.mem_singleton.mp hb]
    exact next_is_new F
  · intro i c hc p hp
    rw [List.mem_singleton.mp hp]
    exact hl i c hc
  · intro b hb
    rcases List.mem_cons.mp hb with rfl | hb
    · exact .inl (.head _)
    · rw [List.mem_singleton.mp hb]
      exact .inr (.inl ⟨_, .head _⟩)
  · intro b hb
    rw [List.mem_singleton.mp hb]
    exact .head _
  · rintro i h ⟨⟨o, ho, _⟩, _⟩ b hb
    rw [List.mem_singleton.mp hb]
    exact ⟨o, ho⟩
  · intro p hp hI
    exact absurd (Heap.lt_size (N p hp).1) ((List.mem_singleton.mp hI) ▸ Nat.lt_irrefl _)
  · intro i v c u h tk own hi hP hf' hoff F' N'
    exact turn i v c u h tk own (by simpa using hP) hf' hoff F' N'
  · intro c u h tk hf' F' N'
    exact done c u h tk hf' F' N'
end
theorem mend {σ : Type} {g : Heap} {L : Addr} {s : Shared} {Led : σ → List (Addr × Obj)} {ps : σ → List (Str × Value)} {Facts : Nat → σ → Prop} {stored : List Str} {m₀ m' : Str → Option Value} {own : List (Addr × Obj)} {i : Nat} {h' : Heap} {tk : Nat} {news' : List (Addr × Obj)} (c' : σ)
    (F : Fr g L h' m') (N : News g L h' news') (hn : ∀ p ∈ Led c', p ∈ news') (ho : ∀ p ∈ own, p ∈ news') (ha : OwnOff own ((Led c').map (·.1))) (hf : Facts i c') (hk : ∀ p ∈ ps c', m' p.1 = some p.2) (hr : ∀ z, (∀ p ∈ ps c', z ≠ p.1) → stored.contains z = false → m' z = m₀ z) :
    MEnd g L s Led ps Facts stored m₀ own i { s with heap := h', toks := tk } := ⟨c', h', tk, m', news', rfl, F, N, hn, ho, ha, hf, hk, hr⟩
section
variable {w : World} {p : Program} {loose : List Str} {mean : ExcName → Option Value} {mg mb : Str → Option Value}
  {dp un : Nat} {gd : Option (List Code)} {cn : Str} {cs : Scope} {a : Addr} {ccd : Value} {cl : List (Str × Addr)} {outer : List Env} {A₀ : Around} {base h₀ : Heap} {L : Addr} {m : Str → Option Value} {s : Shared} {Q E : Value → Shared → Prop}

end
end Mine

-- MAdd
namespace Mine
set_option maxRecDepth 100000
set_option maxHeartbeats 8000000
local macro_rules | `(tactic| walk_at "MY_PAD0") => `(tactic| fail)
local macro_rules | `(tactic| walk_at "MY_PAD1") => `(tactic| fail)
local macro_rules | `(tactic| walk_at "MY_PAD2") => `(tactic| fail)
local macro_rules | `(tactic| walk_at "MY_PAD3") => `(tactic| fail)
local macro_rules | `(tactic| walk_at "MY_PAD4") => `(tactic| fail)
local macro_rules | `(tactic| walk_at "MY_PAD5") => `(tactic| fail)
local macro_rules | `(tactic| walk_at "MY_PAD6") => `(tactic| fail)
local macro_rules | `(tactic| walk_at "MY_PAD7") => `(tactic| fail)
local macro_rules | `(tactic| walk_at "MY_PAD8") => `(tactic| fail)
local macro_rules | `(tactic| walk_at "MY_PAD9") => `(tactic| fail)
local macro_rules | `(tactic| walk_at "MY_PAD10") => `(tactic| fail)
local macro_rules | `(tactic| walk_at "MY_PAD11") => `(tactic| fail)
local macro_rules | `(tactic| walk_at "MY_PAD12") => `(tactic| fail)
local macro_rules | `(tactic| walk_at "MY_PAD13") => `(tactic| fail)
theorem reset_MAdd : True := by
  w_top off
  k_with_none
  trivial
local macro_rules | `(tactic| walk_at "truthy ref") => `(tactic| (k_here; (with_reducible show wpAny _ _ (truthy (Value.ref _)) _ _ _); k_dflt (refine' my_truthyS ?N ?m ?f ?_; (case N => k_asm); (case m => k_mem); (case f => omega); k_whole; intro tk9)))
local macro_rules | `(tactic| walk_at "subscriptTail Name UnaryOp ref int") => `(tactic| (k_here; (with_reducible show wpAny _ _ (subscriptTail _ _ (Value.ref _) (Value.int (-1) _)) _ _ _); k_dflt (refine' my_last ?N ?m ?_; (case N => k_asm); (case m => k_mem); k_whole)))
local macro_rules | `(tactic| k_mem) => `(tactic| assumption)
local macro_rules | `(tactic| walk_at "exec For") => `(tactic| (k_here; (rename Fr _ _ _ _ => lF'); (with_unfolding_all refine' For_turns lF' ?_); k_whole; walk_say "MY FOR"))
local macro_rules | `(tactic| walk_at "MY_ENTERC") => `(tactic| k_dflt (refine' code_defC1 (PySem.Str.ofString "pattern") _ ?k1 ?k2 ?k3 ?k4 ?k5 ?kA ?kF ?kK ?k6 ?k7 ?k8 ?k9 ?kBe ?kB ?kB2 ?kD ?_ ?c2 ?c3 ?c4; (case kA => exact rfl); (case kF => exact rfl); (case kK => assumption); (case k1 => k_asm); (case k2 => k_asm); (case k3 => k_asm); (case k4 => k_asm); (case k5 => k_asm); (case k6 => k_is); (case k7 => k_is); (case k8 => ktr_room); (case k9 => first | exact BindsTo.of_eq rfl | exact binds_K (by k_in) rfl (by k_is) rfl rfl rfl | fail "k_enter: no rule for these arguments"); (case kBe => exact rfl); (case kB => exact fun _ => rfl); (case kB2 => exact rfl); (case kD => decide +kernel); (case c2 => exact rfl); (case c3 => exact rfl); (case c4 => exact rfl); k_whole; intro g' L' h' tk' cells' FG' F' N' Y' B' X' T' l1; (try k_lt l1); k_cells Y'; (try simp only [List.cons_append, List.nil_append] at N'); (try dsimp only); (try k_lift B'); (try k_fold)))
local macro_rules | `(tactic| walk_at "newList") => `(tactic| (k_here; k_dflt (refine' newList_K ?k1 ?k2 ?_; (case k1 => k_asm); (case k2 => k_asm); k_whole); intro l' h' F' N' l1; (try k_lt l1); (first
  | (have la9 : AllLt _ _ := l1; have lo9 := allLt_ne la9) | (have la9 : AllLt _ _ := l1.2; have lo9 := allLt_ne la9) | (have la9 : AllLt _ _ := l1.2.2; have lo9 := allLt_ne la9) | (have la9 : AllLt _ _ := l1.2.2.2; have lo9 := allLt_ne la9) | (have la9 : AllLt _ _ := l1.2.2.2.2; have lo9 := allLt_ne la9) | (have la9 : AllLt _ _ := l1.2.2.2.2.2; have lo9 := allLt_ne la9) | (have la9 : AllLt _ _ := l1.2.2.2.2.2.2; have lo9 := allLt_ne la9)
  | (have la9 : AllLt _ _ := l1.2.2.2.2.2.2.2; have lo9 := allLt_ne la9) | (have la9 : AllLt _ _ := l1.2.2.2.2.2.2.2.2; have lo9 := allLt_ne la9) | (have la9 : AllLt _ _ := l1.2.2.2.2.2.2.2.2.2; have lo9 := allLt_ne la9) | (have la9 : AllLt _ _ := l1.2.2.2.2.2.2.2.2.2.2; have lo9 := allLt_ne la9) | (have la9 : AllLt _ _ := l1.2.2.2.2.2.2.2.2.2.2.2; have lo9 := allLt_ne la9) | (have la9 : AllLt _ _ := l1.2.2.2.2.2.2.2.2.2.2.2.2; have lo9 := allLt_ne la9)
  | (have la9 : AllLt _ _ := l1.2.2.2.2.2.2.2.2.2.2.2.2.2; have lo9 := allLt_ne la9) | (have la9 : AllLt _ _ := l1.2.2.2.2.2.2.2.2.2.2.2.2.2.2; have lo9 := allLt_ne la9) | (have la9 : AllLt _ _ := l1.2.2.2.2.2.2.2.2.2.2.2.2.2.2.2; have lo9 := allLt_ne la9) | skip); (try k_sweep)))

local macro_rules | `(tactic| k_all) => `(tactic| assumption)
local macro_rules | `(tactic| walk_at "truthy str") => `(tactic| (k_here; (first | (with_reducible refine my_tr1 ?_) | (with_reducible refine my_tr0 ?_)); intro tk9))
local macro_rules | `(tactic| walk_at "subscriptTail Name Constant ref int") => `(tactic| (k_here; (with_reducible show wpAny _ _ (subscriptTail _ _ (Value.ref _) (Value.int 0 _)) _ _ _); k_dflt (refine' my_first ?N ?m ?_; (case N => k_asm); (case m => k_mem); k_whole)))
section
variable {w : World} {p : Program} {loose : List Str} {mean : ExcName → Option Value} {mg mb : Str → Option Value}
  {dp un : Nat} {gd : Option (List Code)} {cn : Str} {cs : Scope} {a : Addr} {ccd : Value} {cl : List (Str × Addr)} {outer : List Env} {A₀ : Around} {base h₀ : Heap} {L : Addr} {m : Str → Option Value} {s : Shared} {Q E : Value → Shared → Prop}
theorem add_spec {o : Addr} {R : List (Addr × Obj)} {r : List Tk} {news : List (Addr × Obj)} {sign : List Nat} {t : Tok}
    (B : Below A₀ base outer h₀) (F : Fr h₀ L s.heap m) (X : (hd.heap_39 w.params).In h₀) (N : News h₀ L s.heap news)
    (T : Top p loose mean mg mb h₀) (hk : cs.kind = .function) (hdp : dp + 1 < recursionLimit) (hu : un + 8 < cLine)
    (hB : Bld o R r news) (hs : szs r ≤ 1000) (hl : sign.length ≤ 1000)
    (ret : ∀ news' h' tk', Bld o R (addR sign r) news' → Fr h₀ L h' m → News h₀ L h' news' → Q .none { s with heap := h', toks := tk' }) :
    wpAny (model PySem.Challenge.rw_wx0001_01.row.prog w) (ktrTop dp un gd cn cs L a ccd cl outer) (call (.ref 119) [.ref o, .str (S sign) t]) Q E s := by
  revert X B F T; k_fill; intro B F X T
  cases hB with
  | nil ho =>
    refine wpAny_call ?_
    k_dflt cell_enter
    k_steps
    rename News _ _ _ _ => kN; rename Fr _ _ _ _ => kF; rename (_ < _ ∧ _) => l1
    refine ret _ _ _ ?_ kF (news_swap kN)
    refine .cons (vs := []) (old := []) (.ch _ _ _) .nil ?_ (Nat.ne_of_lt l1.1) (fun _ _ _ h => (nomatch h))
    intro p hp q hq
    simp only [List.mem_cons, List.not_mem_nil, or_false] at hq
    rcases hq with rfl | rfl
    · exact ho p hp _ (.head _)
    · exact Nat.ne_of_lt ((allLt_iff.mp l1.2) p hp)
  | @cons t0 r vs b ob n old hr hd ho hob hR =>
    have hob9 := neN hob
    have hlen := hd.length
    rw [List.length_map, List.length_reverse] at hlen
    have hlen2 := len_le_szs (t0 :: r)
    rw [List.length_cons] at hlen2
    have hvs : vs.length < 100000 := by omega
    generalize hrest : old ++ R = rest at *
    cases hr with
    | @ch x t0 t1 e =>
      have hx : x.length + 1 + szs r ≤ 1000 := by rw [szs_cons] at hs; exact hs
      have hxl : (S x).length ≤ 1000 := by rw [S_length]; omega
      have hsl : (S sign).length ≤ 1000 := by rw [S_length]; omega
      refine wpAny_call ?_
      k_dflt cell_enter
      k_steps
      rename_i kF kN _ _
      rw [S_append] at kN
      refine ret _ _ _ ?_ kF kN
      subst hrest
      exact .cons (.ch _ _ _) hd ho hob hR
    | @fd c n t0 t1 t2 e =>
      refine wpAny_call ?_
      k_dflt cell_enter
      k_steps
      rename News _ _ _ _ => kN; rename Fr _ _ _ _ => kF; rename (_ < _ ∧ _) => l1
      simp only [List.push_toArray] at kN
      refine ret _ _ _ ?_ kF (news_swap kN)
      subst hrest
      refine .snoc (.fd _ _ _ _) hd ho hob hR (.ch _ _ _) (allLt_iff.mp l1.2.2) l1.1 l1.2.1

end
end Mine

-- MReads
namespace Mine
set_option maxRecDepth 100000
set_option maxHeartbeats 8000000
local macro_rules | `(tactic| walk_at "MY_PAD0") => `(tactic| fail)
local macro_rules | `(tactic| walk_at "MY_PAD1") => `(tactic| fail)
local macro_rules | `(tactic| walk_at "MY_PAD2") => `(tactic| fail)
local macro_rules | `(tactic| walk_at "MY_PAD3") => `(tactic| fail)
local macro_rules | `(tactic| walk_at "MY_PAD4") => `(tactic| fail)
local macro_rules | `(tactic| walk_at "MY_PAD5") => `(tactic| fail)
local macro_rules | `(tactic| walk_at "MY_PAD6") => `(tactic| fail)
local macro_rules | `(tactic| walk_at "MY_PAD7") => `(tactic| fail)
local macro_rules | `(tactic| walk_at "MY_PAD8") => `(tactic| fail)
local macro_rules | `(tactic| walk_at "MY_PAD9") => `(tactic| fail)
local macro_rules | `(tactic| walk_at "MY_PAD10") => `(tactic| fail)
local macro_rules | `(tactic| walk_at "MY_PAD11") => `(tactic| fail)
local macro_rules | `(tactic| walk_at "MY_PAD12") => `(tactic| fail)
local macro_rules | `(tactic| walk_at "MY_PAD13") => `(tactic| fail)
local macro_rules | `(tactic| walk_at "MY_PAD14") => `(tactic| fail)
local macro_rules | `(tactic| walk_at "MY_PAD15") => `(tactic| fail)
local macro_rules | `(tactic| walk_at "MY_PAD16") => `(tactic| fail)
local macro_rules | `(tactic| walk_at "MY_PAD17") => `(tactic| fail)
local macro_rules | `(tactic| walk_at "MY_PAD18") => `(tactic| fail)
theorem reset_MReads : True := by
  w_top off
  k_with_none
  trivial
local macro_rules | `(tactic| walk_at "truthy ref") => `(tactic| (k_here; (with_reducible show wpAny _ _ (truthy (Value.ref _)) _ _ _); k_dflt (refine' my_truthyS ?N ?m ?f ?_; (case N => k_asm); (case m => k_mem); (case f => omega); k_whole; intro tk9)))
local macro_rules | `(tactic| walk_at "subscriptTail Name UnaryOp ref int") => `(tactic| (k_here; (with_reducible show wpAny _ _ (subscriptTail _ _ (Value.ref _) (Value.int (-1) _)) _ _ _); k_dflt (refine' my_last ?N ?m ?_; (case N => k_asm); (case m => k_mem); k_whole)))
structure RSt where
  pos : Nat
  ins : Bool
  r : List Tk
  nx : List (Addr × Obj)
  ta : Nat
structure ROk (x : List Nat) (o : Addr) (R : List (Addr × Obj)) (c : RSt) : Prop where
  le : c.pos ≤ x.length
  eq : readR (x.drop c.pos) c.ins c.r = readR x false []
  sz : szs c.r ≤ 2 * c.pos
  bld : Bld o R c.r c.nx
noncomputable def Mark (_ : Nat) : Prop := True
theorem mark (n : Nat) : Mark n := trivial
noncomputable abbrev readsPs (o : Addr) (ins : Bool) (pos ta : Nat) : List (Str × Value) := [(PySem.Str.ofString "out", .ref o), (PySem.Str.ofString "inside", .bool ins), (PySem.Str.ofString "at", .int pos ta)]
noncomputable abbrev readsSt : List Str := [PySem.Str.ofString "sign", PySem.Str.ofString "at", PySem.Str.ofString "inside"]
noncomputable abbrev ReadsPost (x : List Nat) (g : Heap) (L : Addr) (s : Shared) (o : Addr) (R : List (Addr × Obj)) (m₀ : Str → Option Value) (Q : Flow → Shared → Prop) (c : RSt) : Flow → Shared → Prop :=
  KswPost g L s (fun c => c.nx) (fun c => readsPs o c.ins c.pos c.ta) (ROk x o R) readsSt m₀ (fun _ => True) (fun c : RSt => x.length - c.pos) Q c
theorem reads_while {prog : Program} {w : World} {A : Around} {E : Value → Shared → Prop} {Q : Flow → Shared → Prop} {s : Shared} {env : Env} {g : Heap} {L : Addr} {test : Expr} {body : List Stmt} {pos : Pos} {m₀ : Str → Option Value} {o : Addr} {n : Nat} {R : List (Addr × Obj)} {ta : Nat} (x : List Nat)
    (F : Fr g L s.heap m₀) (N : News g L s.heap ((o, W.listOf #[] n) :: R)) (ho : OwnOff R [o])
    (h1 : m₀ (PySem.Str.ofString "out") = some (.ref o)) (h2 : m₀ (PySem.Str.ofString "inside") = some (.bool false)) (h3 : m₀ (PySem.Str.ofString "at") = some (.int 0 ta))
    (turn : ∀ (pos : Nat) (ins : Bool) (r : List Tk) (nx : List (Addr × Obj)) (ta : Nat) (u : Str → Option Value) h tk, pos ≤ x.length → readR (x.drop pos) ins r = readR x false [] → szs r ≤ 2 * pos → Bld o R r nx →
      Fr g L h (kstB (fun z => if readsSt.contains z then u z else m₀ z) (readsPs o ins pos ta)) → News g L h nx →
      wpAny (model prog w) A (isTrue test env (eval test env)) (fun b s₂ =>
        if b = true then wpAny (model prog w) A (execs body env) (ReadsPost x g L s o R m₀ Q ⟨pos, ins, r, nx, ta⟩) E s₂ else Q .next s₂) E { s with heap := h, toks := tk })
    (hE : PassesOwn (model prog w) A env E := by passes_own) :
    wpAny (model prog w) A (exec (.While test body [] pos) env) Q E s := by
  refine ksw_while (σ := RSt) (fun c => c.nx) (fun c => readsPs o c.ins c.pos c.ta) (ROk x o R) readsSt (fun _ => True) (fun c => x.length - c.pos) ⟨0, false, [], _, ta⟩ F N ?_ ?_ trivial (fun c u h tk hf _ F' N' => turn c.pos c.ins c.r c.nx c.ta u h tk hf.le hf.eq hf.sz hf.bld F' N') hE
  · exact ⟨Nat.zero_le _, rfl, by simp [szs], .nil ho⟩
  · intro p hp
    simp only [List.mem_cons, List.not_mem_nil, or_false] at hp
    rcases hp with rfl | rfl | rfl
    · exact h1
    · exact h2
    · exact h3
theorem reads_end {x : List Nat} {g : Heap} {L : Addr} {s : Shared} {o : Addr} {R : List (Addr × Obj)} {m₀ m' : Str → Option Value} {c : RSt} {h' : Heap} {tk : Nat} {news' : List (Addr × Obj)} (pos : Nat) (ins : Bool) (r : List Tk) (ta : Nat)
    (F : Fr g L h' m') (N : News g L h' news') (hB : Bld o R r news') (hle : pos ≤ x.length) (heq : readR (x.drop pos) ins r = readR x false []) (hsz : szs r ≤ 2 * pos)
    (h1 : m' (PySem.Str.ofString "out") = some (.ref o)) (h2 : m' (PySem.Str.ofString "inside") = some (.bool ins)) (h3 : m' (PySem.Str.ofString "at") = some (.int (pos : Int) ta))
    (hr : ∀ z, (∀ p ∈ readsPs o ins pos ta, z ≠ p.1) → readsSt.contains z = false → m' z = m₀ z) (hm : c.pos < pos) (hx : c.pos < x.length) :
    KswEnd g L s (fun c => c.nx) (fun c => readsPs o c.ins c.pos c.ta) (ROk x o R) readsSt m₀ (fun _ => True) (fun c : RSt => x.length - c.pos) c { s with heap := h', toks := tk } := by
  refine ksw_end ⟨pos, ins, r, news', ta⟩ F N (fun _ h => h) ⟨hle, heq, hsz, hB⟩ ?_ hr trivial (by dsimp only; omega)
  intro p hp
  simp only [List.mem_cons, List.not_mem_nil, or_false] at hp
  rcases hp with rfl | rfl | rfl
  · exact h1
  · exact h2
  · exact h3
noncomputable abbrev itemAt (x : List Nat) (pos : Nat) : Str := Txt.item (S x) (pos : Int)
noncomputable abbrev outL (x : List Nat) (pos : Nat) : Bool := !(PySem.Builtin.Str.occurrences (PySem.Str.ofString "yMdEcHOFS") (Txt.item (S x) (pos : Int)) 0 (PySem.Str.ofString "yMdEcHOFS").length 1).isEmpty
inductive RC (o : Addr) (R : List (Addr × Obj)) (nx : List (Addr × Obj)) (x : List Nat) (pos : Nat) (ins : Bool) (r : List Tk) : Prop where
  | done : pos = x.length → RC o R nx x pos ins r
  | qq : pos < x.length → pos + 2 ≤ x.length → itemAt x pos = S [39] → (itemAt x pos == PySem.Str.ofString "'") = true → (Txt.slice (S x) (some ((pos : Int) + 1)) (some ((pos : Int) + 1 + 1)) == PySem.Str.ofString "'") = true → readR (x.drop (pos + 2)) ins (addR [39] r) = readR x false [] → RC o R nx x pos ins r
  | q : pos < x.length → (itemAt x pos == PySem.Str.ofString "'") = true → (Txt.slice (S x) (some ((pos : Int) + 1)) (some ((pos : Int) + 1 + 1)) == PySem.Str.ofString "'") = false → readR (x.drop (pos + 1)) (!ins) r = readR x false [] → RC o R nx x pos ins r
  | tI (c : Nat) : pos < x.length → itemAt x pos = S [c] → (itemAt x pos == PySem.Str.ofString "'") = false → ins = true → readR (x.drop (pos + 1)) ins (addR [c] r) = readR x false [] → RC o R nx x pos ins r
  | tO (c : Nat) : pos < x.length → itemAt x pos = S [c] → (itemAt x pos == PySem.Str.ofString "'") = false → ins = false → (!outL x pos) = true → readR (x.drop (pos + 1)) ins (addR [c] r) = readR x false [] → RC o R nx x pos ins r
  | f0 (c n : Nat) : pos < x.length → itemAt x pos = S [c] → (itemAt x pos == PySem.Str.ofString "'") = false → ins = false → (!outL x pos) = false → readR (x.drop (pos + 1)) ins [.fd c 1] = readR x false [] →
      r = [] → nx = (o, W.listOf #[] n) :: R → OwnOff R [o] → RC o R nx x pos ins r
  | fc (c : Nat) (y : List Nat) (r' : List Tk) (vs : List Value) (b t0 t1 e n : Nat) (old rest : List (Addr × Obj)) : pos < x.length → itemAt x pos = S [c] → (itemAt x pos == PySem.Str.ofString "'") = false → ins = false → (!outL x pos) = false → readR (x.drop (pos + 1)) ins (.fd c 1 :: .ch y :: r') = readR x false [] →
      r = .ch y :: r' → nx = (o, W.listOf (vs ++ [Value.ref b]).toArray n) :: (b, W.listOf #[.str (PySem.Str.ofString "chars") t0, .str (S y) t1] e) :: rest → OwnOff rest [o, b] → BOpen o R r' vs b old rest → vs.length < 100000 → RC o R nx x pos ins r
  | fs (c k : Nat) (r' : List Tk) (vs : List Value) (b t0 t1 t2 e n : Nat) (old rest : List (Addr × Obj)) : pos < x.length → itemAt x pos = S [c] → (itemAt x pos == PySem.Str.ofString "'") = false → ins = false → (!outL x pos) = false → readR (x.drop (pos + 1)) ins (.fd c (k + 1) :: r') = readR x false [] →
      r = .fd c k :: r' → nx = (o, W.listOf (vs ++ [Value.ref b]).toArray n) :: (b, W.listOf #[.str (PySem.Str.ofString "field") t0, .str (S [c]) t1, .int k t2] e) :: rest → (S [c] == itemAt x pos) = true → OwnOff rest [o, b] → BOpen o R r' vs b old rest → vs.length < 100000 → RC o R nx x pos ins r
  | fo (c d k : Nat) (r' : List Tk) (vs : List Value) (b t0 t1 t2 e n : Nat) (old rest : List (Addr × Obj)) : pos < x.length → itemAt x pos = S [c] → (itemAt x pos == PySem.Str.ofString "'") = false → ins = false → (!outL x pos) = false → readR (x.drop (pos + 1)) ins (.fd c 1 :: .fd d k :: r') = readR x false [] →
      r = .fd d k :: r' → nx = (o, W.listOf (vs ++ [Value.ref b]).toArray n) :: (b, W.listOf #[.str (PySem.Str.ofString "field") t0, .str (S [d]) t1, .int k t2] e) :: rest → (S [d] == itemAt x pos) = false → OwnOff rest [o, b] → BOpen o R r' vs b old rest → vs.length < 100000 → RC o R nx x pos ins r
theorem reads_cases {o : Addr} {R : List (Addr × Obj)} {nx : List (Addr × Obj)} {x : List Nat} {pos : Nat} {ins : Bool} {r : List Tk} (hle : pos ≤ x.length) (heq : readR (x.drop pos) ins r = readR x false []) (hB : Bld o R r nx) (hs : szs r ≤ 10000) : RC o R nx x pos ins r := by
  rcases Nat.lt_or_ge pos x.length with hlt | hge
  · obtain ⟨c, hc⟩ : ∃ c, x[pos]? = some c := ⟨x[pos], by simp [hlt]⟩
    have hitem := item_S hc
    have hdrop := drop_at hc
    rw [hdrop] at heq
    have hslice : Txt.slice (S x) (some ((pos : Int) + 1)) (some ((pos : Int) + 1 + 1)) = S ((x.drop (pos + 1)).take 1) := slice_S (k := pos + 1) hlt
    have ein : outL x pos = isF c := by unfold outL; rw [hitem]; exact in_letters
    by_cases h39 : c = 39
    · have e39 : (itemAt x pos == PySem.Str.ofString "'") = true := by unfold itemAt; rw [hitem, beq_q]; exact decide_eq_true h39
      subst h39
      by_cases hn : (x.drop (pos + 1)).head? = some 39
      · rw [head_drop] at hn
        have hd2 := drop_at hn
        refine .qq hlt ?_ hitem e39 ?_ ?_
        · have := (List.getElem?_eq_some_iff.mp hn).1; omega
        · rw [hslice, q_lit, S_beq, hd2]; simp
        · rw [hd2, readR_qq] at heq; exact heq
      · refine .q hlt e39 ?_ ?_
        · rw [hslice, q_lit, S_beq]
          cases hq : x.drop (pos + 1) with
          | nil => simp
          | cons d l => rw [hq] at hn; simpa using hn
        · rw [readR_q hn] at heq; exact heq
    · have e39 : (itemAt x pos == PySem.Str.ofString "'") = false := by unfold itemAt; rw [hitem, beq_q]; exact decide_eq_false h39
      cases ins with
      | true => exact .tI c hlt hitem e39 rfl (by rw [readR_t h39 (by simp)] at heq; exact heq)
      | false =>
        cases hf : isF c with
        | false => exact .tO c hlt hitem e39 rfl (by rw [ein, hf]; rfl) (by rw [readR_t h39 (by simp [hf])] at heq; exact heq)
        | true =>
          have eo : (!outL x pos) = false := by rw [ein, hf]; rfl
          rw [readR_f h39 (by simp [hf])] at heq
          cases hB with
          | nil ho => exact .f0 c _ hlt hitem e39 rfl eo heq rfl rfl ho
          | @cons t0 r vs b ob n old hr hd ho hob hR =>
            have hlen := hd.length
            rw [List.length_map, List.length_reverse] at hlen
            have hlen2 := len_le_szs (t0 :: r)
            rw [List.length_cons] at hlen2
            have hvs : vs.length < 100000 := by omega
            have bo : BOpen o R r vs b old (old ++ R) := ⟨rfl, hd, hob, fun e => hob e.symm, hR⟩
            cases hr with
            | ch t0 t1 e => exact .fc c _ r vs b t0 t1 e n old _ hlt hitem e39 rfl eo heq rfl rfl ho bo hvs
            | @fd d k t0 t1 t2 e =>
              by_cases hdc : d = c
              · subst hdc
                exact .fs d k r vs b t0 t1 t2 e n old _ hlt hitem e39 rfl eo (by simpa [incF] using heq) rfl rfl (by unfold itemAt; rw [hitem]; simp) ho bo hvs
              · refine .fo c d k r vs b t0 t1 t2 e n old _ hlt hitem e39 rfl eo (by simpa [incF, hdc] using heq) rfl rfl ?_ ho bo hvs
                unfold itemAt; rw [hitem, S_beq]; simp [hdc]
  · exact .done (by omega)
local macro_rules | `(tactic| walk_at $s:str) => `(tactic| k_extra $s)
section
variable {w : World} {p : Program} {loose : List Str} {mean : ExcName → Option Value} {mg mb : Str → Option Value}
  {dp un : Nat} {gd : Option (List Code)} {cn : Str} {cs : Scope} {a : Addr} {ccd : Value} {cl : List (Str × Addr)} {outer : List Env} {A₀ : Around} {base h₀ : Heap} {L : Addr} {m : Str → Option Value} {s : Shared} {Q E : Value → Shared → Prop}
theorem reads_spec {R : List (Addr × Obj)} {x : List Nat} {t : Tok}
    (B : Below A₀ base outer h₀) (F : Fr h₀ L s.heap m) (X : (hd.heap_39 w.params).In h₀) (N : News h₀ L s.heap R)
    (T : Top p loose mean mg mb h₀) (hk : cs.kind = .function) (hdp : dp + 2 < recursionLimit) (hu : un + 16 < cLine)
    (hx : x.length ≤ 400)
    (ret : ∀ (o tup : Addr) nx h' tk', Bld o R (readR x false []).1 nx → (∀ p ∈ nx, p.1 < tup) → Fr h₀ L h' m → News h₀ L h' ((tup, { cls := .type "tuple", data := .seq #[.ref o, .bool (readR x false []).2] }) :: nx) → Q (.ref tup) { s with heap := h', toks := tk' }) :
    wpAny (model PySem.Challenge.rw_wx0001_01.row.prog w) (ktrTop dp un gd cn cs L a ccd cl outer) (call (.ref 126) [.str (S x) t]) Q E s := by
  revert X B F T; k_fill; intro B F X T
  k_with_none
  k_with "exec While Compare cons nil" => (
    (rename News _ _ _ _ => N0); (rename Fr _ _ _ _ => F0); (rename (∀ p ∈ R, _ < _) => l0)
    refine reads_while x F0 N0 (fun p hp q hq => by
      simp only [List.mem_cons, List.not_mem_nil, or_false] at hq
      subst hq
      exact Nat.ne_of_lt (l0 p hp)) rfl rfl rfl ?_
    clear F0 N0
    intro pos ins r nx ta u h9 tk9 hle heq hsz hbld F9 N9
    have hSl : (S x).length = x.length := S_length x
    have hs9 : szs r ≤ 10000 := by omega
    rcases reads_cases hle heq hbld hs9 with hge | ⟨hlt, hlt2, hitem, e39, es, hnext⟩ | ⟨hlt, e39, es, hnext⟩ | ⟨c, hlt, hitem, e39, rfl, hnext⟩ | ⟨c, hlt, hitem, e39, rfl, en, hnext⟩ |
      ⟨c, n0, hlt, hitem, e39, rfl, en, hnext, rfl, rfl, ho⟩ | ⟨c, y, r', vs, b, t0, t1, e, n0, old, rest, hlt, hitem, e39, rfl, en, hnext, rfl, rfl, ho, bo, hvs⟩ |
      ⟨c, k, r', vs, b, t0, t1, t2, e, n0, old, rest, hlt, hitem, e39, rfl, en, hnext, rfl, rfl, ee, ho, bo, hvs⟩ | ⟨c, d, k, r', vs, b, t0, t1, t2, e, n0, old, rest, hlt, hitem, e39, rfl, en, hnext, rfl, rfl, ee, ho, bo, hvs⟩ <;>
      (try (have hne9 := bo.ne)) <;> (try (have hne8 := bo.ne')))
  k_with "call ref" => (
    rw [‹Txt.item (S x) _ = S [_]›]
    k_dflt (refine' add_spec ?k1 ?k2 ?k3 ?k4 ?k5 ?k6 ?k7 ?k8 ?k9 ?k10 ?k11 ?_)
    (case k1 => k_asm)
    (case k2 => k_asm)
    (case k3 => k_asm)
    (case k4 => k_asm)
    (case k5 => k_asm)
    (case k6 => exact rfl)
    (case k7 => ktr_room)
    (case k8 => ktr_units)
    (case k9 => assumption)
    (case k10 => omega)
    (case k11 => simp)
    intro nx9 h9 tk9 B9 F9 N9
    k_sweep)
  refine wpAny_call ?_
  k_dflt cell_enter
  k_steps
  all_goals (rename Fr _ _ _ _ => Fz; rename News _ _ _ _ => Nz)
  all_goals first
    | (rename pos = _ => hge
       subst hge
       rw [List.drop_length, readR] at heq
       have e1 : (readR x false []).1 = r := by rw [← heq]
       have e2 : (readR x false []).2 = ins := by rw [← heq]
       refine ret _ _ _ _ _ (by rw [e1]; exact hbld) ?_ Fz (by rw [e2]; exact Nz)
       assumption)
    | (have hlt3 := hlt2
       exact reads_end _ _ _ _ Fz Nz B9 hlt2 hnext (Nat.le_trans (szs_addR _ _) (by omega)) rfl rfl rfl (by
         intro z h1 h2
         have h3 := h2
         simp only [readsPs, List.forall_mem_cons, List.not_mem_nil, false_implies, implies_true, and_true, ne_eq] at h1
         simp only [readsSt, List.contains_cons, List.contains_nil, Bool.or_false, Bool.or_eq_false_iff, beq_eq_false_iff_ne, ne_eq] at h2
         simp only [kstB, h1, h2, h3, if_false, Bool.false_eq_true]) (by dsimp only; omega) hlt)
    | (rename Bld _ _ (addR _ _) _ => B9
       exact reads_end _ _ _ _ Fz Nz B9 hlt hnext (Nat.le_trans (szs_addR _ _) (by omega)) rfl rfl rfl (by
         intro z h1 h2
         have h3 := h2
         simp only [readsPs, List.forall_mem_cons, List.not_mem_nil, false_implies, implies_true, and_true, ne_eq] at h1
         simp only [readsSt, List.contains_cons, List.contains_nil, Bool.or_false, Bool.or_eq_false_iff, beq_eq_false_iff_ne, ne_eq] at h2
         simp only [kstB, h1, h2, h3, if_false, Bool.false_eq_true]) (by dsimp only; omega) hlt)
    | (rename (S _ == _) = true => ee
       refine reads_end _ _ _ _ Fz Nz (bld_same bo ho (.fd _ _ _ _)) hlt hnext (by simp only [szs_cons, Tk.sz] at hsz ⊢; omega) rfl rfl rfl (by
         intro z h1 h2
         have h3 := h2
         simp only [readsPs, List.forall_mem_cons, List.not_mem_nil, false_implies, implies_true, and_true, ne_eq] at h1
         simp only [readsSt, List.contains_cons, List.contains_nil, Bool.or_false, Bool.or_eq_false_iff, beq_eq_false_iff_ne, ne_eq] at h2
         simp only [kstB, h1, h2, h3, if_false, Bool.false_eq_true]) (by dsimp only; omega) hlt)
    | (rename (_ < _ ∧ _ < _ ∧ AllLt _ _) => l1
       have hit2 : Txt.item (S x) (pos : Int) = S [c] := hitem
       rw [hit2] at Nz
       simp only [List.push_toArray] at Nz
       exact reads_end _ _ _ _ Fz (news_swap Nz) (bld_snoc (by constructor) bo ho (.fd _ _ _ _) l1.1 l1.2.1 l1.2.2) hlt hnext (by simp only [szs_cons, Tk.sz] at hsz ⊢; omega) rfl rfl rfl (by
         intro z h1 h2
         have h3 := h2
         simp only [readsPs, List.forall_mem_cons, List.not_mem_nil, false_implies, implies_true, and_true, ne_eq] at h1
         simp only [readsSt, List.contains_cons, List.contains_nil, Bool.or_false, Bool.or_eq_false_iff, beq_eq_false_iff_ne, ne_eq] at h2
         simp only [kstB, h1, h2, h3, if_false, Bool.false_eq_true]) (by dsimp only; omega) hlt)
    | (rename (_ < _ ∧ AllLt _ _) => l1
       have hit2 : Txt.item (S x) (pos : Int) = S [c] := hitem
       rw [hit2] at Nz
       exact reads_end _ _ _ _ Fz (news_swap Nz) (bld_one ho (.fd _ _ _ _) l1.1 (allLt_iff.mp l1.2)) hlt hnext (by simp only [szs_cons, Tk.sz] at hsz ⊢; omega) rfl rfl rfl (by
         intro z h1 h2
         have h3 := h2
         simp only [readsPs, List.forall_mem_cons, List.not_mem_nil, false_implies, implies_true, and_true, ne_eq] at h1
         simp only [readsSt, List.contains_cons, List.contains_nil, Bool.or_false, Bool.or_eq_false_iff, beq_eq_false_iff_ne, ne_eq] at h2
         simp only [kstB, h1, h2, h3, if_false, Bool.false_eq_true]) (by dsimp only; omega) hlt)
    | (exact reads_end _ _ _ _ Fz Nz hbld hlt hnext (by omega) rfl rfl rfl (by
         intro z h1 h2
         have h3 := h2
         simp only [readsPs, List.forall_mem_cons, List.not_mem_nil, false_implies, implies_true, and_true, ne_eq] at h1
         simp only [readsSt, List.contains_cons, List.contains_nil, Bool.or_false, Bool.or_eq_false_iff, beq_eq_false_iff_ne, ne_eq] at h2
         simp only [kstB, h1, h2, h3, if_false, Bool.false_eq_true]) (by dsimp only; omega) hlt)

end
end Mine

-- MToldP
namespace Mine
set_option maxRecDepth 100000
set_option maxHeartbeats 8000000
theorem Bld.extend {o : Addr} {R own : List (Addr × Obj)} {r : List Tk} {nx : List (Addr × Obj)} (h : Bld o R r nx) (ho : OwnOff own (nx.map (·.1))) : Bld o (R ++ own) r (nx ++ own) := by
  cases h with
  | nil h1 =>
    refine .nil fun p hp q hq => ?_
    rcases List.mem_append.mp hp with hp | hp
    · exact h1 p hp q hq
    · exact ho p hp q (by simp only [List.mem_cons, List.not_mem_nil, or_false] at hq; simp [hq])
  | @cons t r vs b ob n old hr hd h1 hob h2 =>
    rw [List.cons_append, List.cons_append, List.append_assoc]
    refine .cons hr hd ?_ hob ?_
    · intro p hp q hq
      rw [← List.append_assoc] at hp
      rcases List.mem_append.mp hp with hp | hp
      · exact h1 p hp q hq
      · refine ho p hp q ?_
        simp only [List.mem_cons, List.not_mem_nil, or_false] at hq
        rcases hq with rfl | rfl <;> simp
    · intro p hp q hq
      rcases List.mem_append.mp hp with hp | hp
      · exact h2 p hp q hq
      · refine ho p hp q ?_
        simp only [List.map_cons, List.map_append, List.mem_cons, List.mem_append]
        exact .inr (.inr (.inl hq))
theorem Bld.shrink {o : Addr} {R own : List (Addr × Obj)} {r : List Tk} {nx : List (Addr × Obj)} (h : Bld o (R ++ own) r nx) (hR : OwnOff own (R.map (·.1))) :
    ∃ nx', Bld o R r nx' ∧ (∀ p ∈ nx', p ∈ nx) ∧ OwnOff own (nx'.map (·.1)) := by
  cases h with
  | @nil n h1 =>
    refine ⟨(o, W.listOf #[] n) :: R, .nil fun p hp => h1 p (List.mem_append_left _ hp), fun p hp => ?_, fun p hp q hq => ?_⟩
    · rcases List.mem_cons.mp hp with rfl | hp
      · exact .head _
      · exact .tail _ (List.mem_append_left _ hp)
    · simp only [List.map_cons, List.mem_cons] at hq
      rcases hq with rfl | hq
      · exact h1 p (List.mem_append_right _ hp) _ (.head _)
      · exact hR p hp q hq
  | @cons t r vs b ob n old hr hd h1 hob h2 =>
    refine ⟨(o, W.listOf (vs ++ [Value.ref b]).toArray n) :: (b, ob) :: (old ++ R), .cons hr hd (fun p hp => h1 p ?_) hob (fun p hp => h2 p (List.mem_append_left _ hp)), fun p hp => ?_, fun p hp q hq => ?_⟩
    · rcases List.mem_append.mp hp with hp | hp
      · exact List.mem_append_left _ hp
      · exact List.mem_append_right _ (List.mem_append_left _ hp)
    · simp only [List.mem_cons, List.mem_append] at hp ⊢
      rcases hp with h | h | h | h
      · exact .inl h
      · exact .inr (.inl h)
      · exact .inr (.inr (.inl h))
      · exact .inr (.inr (.inr (.inl h)))
    · have hp' : p ∈ old ++ (R ++ own) := List.mem_append_right _ (List.mem_append_right _ hp)
      simp only [List.map_cons, List.map_append, List.mem_cons, List.mem_append] at hq
      rcases hq with rfl | rfl | hq | hq
      · exact h1 p hp' _ (.head _)
      · exact h1 p hp' _ (.tail _ (.head _))
      · exact h2 p (List.mem_append_right _ hp) q hq
      · exact hR p hp q hq
noncomputable def toldStep (r : List Tk) : Tk → List Tk
  | .fd c n => .fd c n :: r
  | .ch x => addR x r
noncomputable def told (ts : List Tk) : List Tk := ts.foldl toldStep []
theorem told_snoc {ts : List Tk} {i : Nat} {t : Tk} (h : ts[i]? = some t) : told (ts.take (i + 1)) = toldStep (told (ts.take i)) t := by
  unfold told
  rw [List.take_add_one, h]; simp
theorem szs_toldStep (r : List Tk) (t : Tk) : szs (toldStep r t) ≤ szs r + t.sz := by
  cases t with
  | fd c n => simp only [toldStep, szs_cons]; omega
  | ch x =>
    cases r with
    | nil => simp only [toldStep, addR, szs_cons, Tk.sz]; omega
    | cons t r =>
      cases t with
      | ch y => simp only [toldStep, addR, szs_cons, Tk.sz, List.length_append]; omega
      | fd c n => simp only [toldStep, addR, szs_cons, Tk.sz]; omega
theorem szs_take {ts : List Tk} {i : Nat} {t : Tk} (h : ts[i]? = some t) : szs (ts.take (i + 1)) = szs (ts.take i) + t.sz := by
  rw [List.take_add_one, h]; simp [szs]
theorem szs_take_le (ts : List Tk) (i : Nat) : szs (ts.take i) ≤ szs ts := by
  have e : ∀ a b : List Tk, szs (a ++ b) = szs a + szs b := fun a b => by simp [szs]
  have h := e (ts.take i) (ts.drop i)
  rw [List.take_append_drop] at h
  omega
/-- a token of the tokenizer's as it lies on a ledger -/
inductive TIs (R : List (Addr × Obj)) : Tk → Value → Prop where
  | ch {x : List Nat} {a : Addr} (t0 t1 k : Nat) : (a, ({ cls := .type "tuple", data := .seq #[.str (PySem.Str.ofString "chars") t0, .str (S x) t1] k } : Obj)) ∈ R → TIs R (.ch x) (.ref a)
  | fd {c n : Nat} {a b : Addr} (t0 t1 t2 k k' : Nat) : (a, ({ cls := .type "tuple", data := .seq #[.str (PySem.Str.ofString "field") t0, .ref b] k } : Obj)) ∈ R → (b, ({ cls := .type "tuple", data := .seq #[.str (S [c]) t1, .int n t2] k' } : Obj)) ∈ R → TIs R (.fd c n) (.ref a)
theorem datAll_nil {R : List (Addr × Obj)} {vs : List Value} (h : DatAll R vs []) : vs = [] := by cases h; rfl
theorem datAll_cons {R : List (Addr × Obj)} {vs : List Value} {d : Dat} {ds : List Dat} (h : DatAll R vs (d :: ds)) : ∃ v vs', vs = v :: vs' ∧ DatIn R v d ∧ DatAll R vs' ds := by
  cases h with
  | cons a b => exact ⟨_, _, rfl, a, b⟩
theorem datIn_str {R : List (Addr × Obj)} {v : Value} {x : Str} (h : DatIn R v (.str x)) : ∃ t, v = .str x t := by cases h; exact ⟨_, rfl⟩
theorem datIn_int {R : List (Addr × Obj)} {v : Value} {x : Int} (h : DatIn R v (.int x)) : ∃ t, v = .int x t := by cases h; exact ⟨_, rfl⟩
theorem datIn_tuple {R : List (Addr × Obj)} {v : Value} {ds : List Dat} (h : DatIn R v (.tuple ds)) : ∃ a vs n, v = .ref a ∧ (a, ({ cls := .type "tuple", data := .seq vs.toArray n } : Obj)) ∈ R ∧ DatAll R vs ds := by
  cases h with
  | tuple a b => exact ⟨_, _, _, rfl, a, b⟩
theorem tis_of {R : List (Addr × Obj)} {v : Value} {t : Tk} (h : DatIn R v t.tk) : TIs R t v := by
  cases t with
  | ch x =>
    obtain ⟨a, vs, n, rfl, hm, hd⟩ := datIn_tuple h
    obtain ⟨v1, vs1, rfl, h1, hd⟩ := datAll_cons hd
    obtain ⟨v2, vs2, rfl, h2, hd⟩ := datAll_cons hd
    obtain rfl := datAll_nil hd
    obtain ⟨t1, rfl⟩ := datIn_str h1
    obtain ⟨t2, rfl⟩ := datIn_str h2
    exact .ch _ _ _ hm
  | fd c k =>
    obtain ⟨a, vs, n, rfl, hm, hd⟩ := datIn_tuple h
    obtain ⟨v1, vs1, rfl, h1, hd⟩ := datAll_cons hd
    obtain ⟨v2, vs2, rfl, h2, hd⟩ := datAll_cons hd
    obtain rfl := datAll_nil hd
    obtain ⟨t1, rfl⟩ := datIn_str h1
    obtain ⟨b, vs, n', rfl, hm', hd⟩ := datIn_tuple h2
    obtain ⟨v3, vs3, rfl, h3, hd⟩ := datAll_cons hd
    obtain ⟨v4, vs4, rfl, h4, hd⟩ := datAll_cons hd
    obtain rfl := datAll_nil hd
    obtain ⟨t3, rfl⟩ := datIn_str h3
    obtain ⟨t4, rfl⟩ := datIn_int h4
    exact .fd _ _ _ _ _ hm hm'
theorem tis_mono {R R' : List (Addr × Obj)} {t : Tk} {v : Value} (h : TIs R t v) (hs : ∀ p ∈ R, p ∈ R') : TIs R' t v := by
  cases h with
  | ch t0 t1 k h1 => exact .ch _ _ _ (hs _ h1)
  | fd t0 t1 t2 k k' h1 h2 => exact .fd _ _ _ _ _ (hs _ h1) (hs _ h2)
theorem tis_at {R : List (Addr × Obj)} {vs : List Value} {ts : List Tk} {i : Nat} {v : Value} (h : DatAll R vs (ts.map Tk.tk)) (hv : vs[i]? = some v) : ∃ t, ts[i]? = some t ∧ TIs R t v := by
  have hlen := h.length
  rw [List.length_map] at hlen
  have hi : i < ts.length := by rw [← hlen]; exact (List.getElem?_eq_some_iff.mp hv).1
  obtain ⟨v', hv', hD⟩ := h.get (k := i) (by rw [List.length_map]; exact hi)
  rw [hv] at hv'
  cases hv'
  refine ⟨ts[i], by simp, tis_of ?_⟩
  simpa using hD
structure TSt where
  r : List Tk
  nx : List (Addr × Obj)
structure TOk (o : Addr) (R : List (Addr × Obj)) (ts : List Tk) (i : Nat) (c : TSt) : Prop where
  eq : c.r = told (ts.take i)
  sz : szs c.r ≤ szs (ts.take i)
  bld : Bld o R c.r c.nx
noncomputable abbrev TPost (o : Addr) (R : List (Addr × Obj)) (ts : List Tk) (g : Heap) (L : Addr) (s : Shared) (m₀ : Str → Option Value) (own : List (Addr × Obj)) (Q : Flow → Shared → Prop) (i : Nat) : Flow → Shared → Prop :=
  MPost (σ := TSt) g L s (fun c => c.nx) (fun _ => [(PySem.Str.ofString "out", .ref o)]) (TOk o R ts) [PySem.Str.ofString "name", PySem.Str.ofString "value"] m₀ own Q i
inductive TC (o : Addr) (R1 : List (Addr × Obj)) (ts : List Tk) (i : Nat) (r : List Tk) (v : Value) (nx1 : List (Addr × Obj)) : Prop where
  | ch (x : List Nat) (a t0 t1 k : Nat) : v = .ref a → ts[i]? = some (.ch x) → x.length ≤ 1000 → szs r ≤ 1000 → (S x == PySem.Str.ofString "") = false → told (ts.take (i + 1)) = addR x r → szs (addR x r) ≤ szs (ts.take (i + 1)) →
      (a, ({ cls := .type "tuple", data := .seq #[.str (PySem.Str.ofString "chars") t0, .str (S x) t1] k } : Obj)) ∈ nx1 → Bld o R1 r nx1 → TC o R1 ts i r v nx1
  | f0 (c k : Nat) (a b t0 t1 t2 k1 k2 n : Nat) : v = .ref a → ts[i]? = some (.fd c k) → told (ts.take (i + 1)) = [.fd c k] → szs [Tk.fd c k] ≤ szs (ts.take (i + 1)) → r = [] → nx1 = (o, W.listOf #[] n) :: R1 → OwnOff R1 [o] →
      (a, ({ cls := .type "tuple", data := .seq #[.str (PySem.Str.ofString "field") t0, .ref b] k1 } : Obj)) ∈ R1 → (b, ({ cls := .type "tuple", data := .seq #[.str (S [c]) t1, .int k t2] k2 } : Obj)) ∈ R1 → TC o R1 ts i r v nx1
  | f1 (c k : Nat) (a b t0 t1 t2 k1 k2 n : Nat) (t : Tk) (r' : List Tk) (vs : List Value) (d : Nat) (ob : Obj) (old rest : List (Addr × Obj)) : v = .ref a → ts[i]? = some (.fd c k) → told (ts.take (i + 1)) = .fd c k :: t :: r' → szs (Tk.fd c k :: t :: r') ≤ szs (ts.take (i + 1)) →
      r = t :: r' → nx1 = (o, W.listOf (vs ++ [Value.ref d]).toArray n) :: (d, ob) :: rest → RIs t ob → OwnOff rest [o, d] → BOpen o R1 r' vs d old rest → vs.length < 100000 →
      (a, ({ cls := .type "tuple", data := .seq #[.str (PySem.Str.ofString "field") t0, .ref b] k1 } : Obj)) ∈ rest → (b, ({ cls := .type "tuple", data := .seq #[.str (S [c]) t1, .int k t2] k2 } : Obj)) ∈ rest → TC o R1 ts i r v nx1
theorem told_cases {o : Addr} {R own : List (Addr × Obj)} {nx : List (Addr × Obj)} {vs : List Value} {ts : List Tk} {i : Nat} {v : Value} {r : List Tk} (hd : DatAll R vs (ts.map Tk.tk)) (hv : vs[i]? = some v) (hs : szs ts ≤ 900) (hne : ∀ x, Tk.ch x ∈ ts → x ≠ [])
    (he : r = told (ts.take i)) (hz : szs r ≤ szs (ts.take i)) (hB : Bld o R r nx) (ho : OwnOff own (nx.map (·.1))) : TC o (R ++ own) ts i r v (nx ++ own) := by
  obtain ⟨t, ht, hT⟩ := tis_at hd hv
  have h1 := told_snoc ht
  have h2 := szs_toldStep (told (ts.take i)) t
  have h3 := szs_take ht
  have h4 := szs_take_le ts (i + 1)
  rw [← he] at h1 h2
  have hB1 := hB.extend ho
  have hT1 := tis_mono hT (R' := R ++ own) fun p hp => List.mem_append_left _ hp
  cases hT1 with
  | @ch x a t0 t1 k hm =>
    have hx := hne x (List.mem_of_getElem? ht)
    refine .ch x a t0 t1 k rfl ht ?_ (by have := szs_take_le ts i; omega) ?_ h1 (by have : szs (addR x r) = szs (toldStep r (.ch x)) := rfl; omega) (hB1.rest _ hm) hB1
    · simp only [Tk.sz] at h3; omega
    · rw [show PySem.Str.ofString "" = S [] from rfl, S_beq]; simp [hx]
  | @fd c k a b t0 t1 t2 k1 k2 hm hm2 =>
    generalize hR1 : R ++ own = R1 at *
    generalize hnx : nx ++ own = nx1 at *
    have h5 : szs (Tk.fd c k :: r) ≤ szs (ts.take (i + 1)) := by have : szs (Tk.fd c k :: r) = szs (toldStep r (.fd c k)) := rfl; omega
    cases hB1 with
    | nil h6 => exact .f0 c k a b t0 t1 t2 k1 k2 _ rfl ht h1 h5 rfl rfl h6 hm hm2
    | @cons t r vs d ob n old hr hd h6 hob h7 =>
      have hlen := hd.length
      rw [List.length_map, List.length_reverse] at hlen
      have hlen2 := len_le_szs (t :: r)
      rw [List.length_cons] at hlen2
      have h8 : szs (t :: r) ≤ 900 := by rw [szs_cons] at h5 hz ⊢; omega
      exact .f1 c k a b t0 t1 t2 k1 k2 n t r vs d ob old _ rfl ht h1 h5 rfl rfl hr h6 ⟨rfl, hd, hob, fun e => hob e.symm, h7⟩ (by omega) (List.mem_append_right _ hm) (List.mem_append_right _ hm2)
theorem told_end {o : Addr} {R own nx nx2 : List (Addr × Obj)} {ts : List Tk} {g : Heap} {L : Addr} {s : Shared} {m₀ m' : Str → Option Value} {i : Nat} {h' : Heap} {tk : Nat} {r : List Tk}
    (F : Fr g L h' m') (N : News g L h' nx2) (hB : Bld o (R ++ own) r nx2) (hR : ∀ p ∈ R, p ∈ nx) (ho : OwnOff own (nx.map (·.1))) (he : told (ts.take (i + 1)) = r) (hz : szs r ≤ szs (ts.take (i + 1)))
    (h1 : m' (PySem.Str.ofString "out") = some (.ref o)) (hr : ∀ z, (∀ p ∈ [(PySem.Str.ofString "out", (Value.ref o))], z ≠ p.1) → [PySem.Str.ofString "name", PySem.Str.ofString "value"].contains z = false → m' z = m₀ z) :
    MEnd (σ := TSt) g L s (fun c => c.nx) (fun _ => [(PySem.Str.ofString "out", .ref o)]) (TOk o R ts) [PySem.Str.ofString "name", PySem.Str.ofString "value"] m₀ own (i + 1) { s with heap := h', toks := tk } := by
  have hoR : OwnOff own (R.map (·.1)) := by
    intro p hp b hb
    obtain ⟨q, hq, rfl⟩ := List.mem_map.mp hb
    exact ho p hp _ (List.mem_map.mpr ⟨q, hR q hq, rfl⟩)
  obtain ⟨nx3, hB3, hs3, ho3⟩ := hB.shrink hoR
  refine mend (σ := TSt) ⟨r, nx3⟩ F N hs3 (fun p hp => hB.rest _ (List.mem_append_right _ hp)) ho3 ⟨he.symm, hz, hB3⟩ ?_ hr
  intro p hp
  simp only [List.mem_cons, List.not_mem_nil, or_false] at hp
  subst hp
  exact h1
theorem told_loop {prog : Program} {w : World} {A : Around} {E : Value → Shared → Prop} {Q : Flow → Shared → Prop} {s : Shared} {env : Env} {g : Heap} {target : Expr} {body : List Stmt} {m₀ : Str → Option Value} {o l : Addr} {n nn : Nat} {R : List (Addr × Obj)} {vs : List Value} (ts : List Tk)
    (hh : A.handled = none) (F : Fr g env.locals s.heap m₀) (N : News g env.locals s.heap ((o, W.listOf #[] n) :: R)) (ho : OwnOff R [o]) (hl : (l, W.listOf vs.toArray nn) ∈ R) (hd : DatAll R vs (ts.map Tk.tk)) (hs : szs ts ≤ 900) (hne : ∀ x, Tk.ch x ∈ ts → x ≠ [])
    (h1 : m₀ (PySem.Str.ofString "out") = some (.ref o))
    (turn : ∀ (i : Nat) (v : Value) (r : List Tk) (nx1 own : List (Addr × Obj)) (u : Str → Option Value) (h : Heap) (tk : Nat), TC o (R ++ own) ts i r v nx1 →
      (∀ (r' : List Tk) nx2 m' h' tk', Fr g env.locals h' m' → News g env.locals h' nx2 → Bld o (R ++ own) r' nx2 → told (ts.take (i + 1)) = r' → szs r' ≤ szs (ts.take (i + 1)) → m' (PySem.Str.ofString "out") = some (.ref o) → (∀ z, (∀ p ∈ [(PySem.Str.ofString "out", (Value.ref o))], z ≠ p.1) → [PySem.Str.ofString "name", PySem.Str.ofString "value"].contains z = false → m' z = m₀ z) →
        TPost o R ts g env.locals { s with heap := h, toks := tk } m₀ own Q (i + 1) .next { s with heap := h', toks := tk' }) →
      Fr g env.locals h (kstB (fun z => if [PySem.Str.ofString "name", PySem.Str.ofString "value"].contains z then u z else m₀ z) [(PySem.Str.ofString "out", .ref o)]) → News g env.locals h nx1 →
      wpAny (model prog w) A (assign target env v) (fun _ s₃ => wpAny (model prog w) A (execs body env) (TPost o R ts g env.locals { s with heap := h, toks := tk } m₀ own Q (i + 1)) E s₃) E { s with heap := h, toks := tk })
    (done : ∀ (nx : List (Addr × Obj)) (u : Str → Option Value) h tk, Bld o R (told ts) nx → Fr g env.locals h (kstB (fun z => if [PySem.Str.ofString "name", PySem.Str.ofString "value"].contains z then u z else m₀ z) [(PySem.Str.ofString "out", .ref o)]) → News g env.locals h nx → Q .next { s with heap := h, toks := tk }) :
    wpAny (model prog w) A (pyIter (.ref l)) (fun it s₂ => TurnsAt prog w A g env target body Q E it s₂) E s := by
  have hlen := hd.length
  rw [List.length_map] at hlen
  refine mlist (σ := TSt) (fun c => c.nx) (fun _ => [(PySem.Str.ofString "out", .ref o)]) (TOk o R ts) [PySem.Str.ofString "name", PySem.Str.ofString "value"] ⟨[], (o, W.listOf #[] n) :: R⟩ hh (fun i c hc => hc.bld.rest _ hl) F N ⟨rfl, by simp [szs], .nil ho⟩ ?_ ?_ ?_
  · intro p hp
    simp only [List.mem_cons, List.not_mem_nil, or_false] at hp
    subst hp
    exact h1
  · rintro i v ⟨r, nx⟩ u h tk own hv ⟨he, hz, hB⟩ hoff F' N'
    exact turn i v r _ own u h tk (told_cases hd hv hs hne he hz hB hoff) (fun r' nx2 m' h' tk' F2 N2 hB2 he2 hz2 h2 hr2 => told_end F2 N2 hB2 hB.rest hoff he2 hz2 h2 hr2) F' N'
  · rintro ⟨r, nx⟩ u h tk ⟨he, hz, hB⟩ F' N'
    have e : r = told ts := by rw [show r = told (ts.take vs.length) from he, hlen, List.take_length]
    subst e
    exact done nx u h tk hB F' N'
section
variable {w : World} {p : Program} {loose : List Str} {mean : ExcName → Option Value} {mg mb : Str → Option Value}
  {dp un : Nat} {gd : Option (List Code)} {cn : Str} {cs : Scope} {a : Addr} {ccd : Value} {cl : List (Str × Addr)} {outer : List Env} {A₀ : Around} {base h₀ : Heap} {L : Addr} {m : Str → Option Value} {s : Shared} {Q E : Value → Shared → Prop}

end
end Mine

-- MTold
namespace Mine
set_option maxRecDepth 100000
set_option maxHeartbeats 8000000
local macro_rules | `(tactic| walk_at "MY_PAD0") => `(tactic| fail)
local macro_rules | `(tactic| walk_at "MY_PAD1") => `(tactic| fail)
local macro_rules | `(tactic| walk_at "MY_PAD2") => `(tactic| fail)
local macro_rules | `(tactic| walk_at "MY_PAD3") => `(tactic| fail)
local macro_rules | `(tactic| walk_at "MY_PAD4") => `(tactic| fail)
local macro_rules | `(tactic| walk_at "MY_PAD5") => `(tactic| fail)
local macro_rules | `(tactic| walk_at "MY_PAD6") => `(tactic| fail)
local macro_rules | `(tactic| walk_at "MY_PAD7") => `(tactic| fail)
local macro_rules | `(tactic| walk_at "MY_PAD8") => `(tactic| fail)
local macro_rules | `(tactic| walk_at "MY_PAD9") => `(tactic| fail)
local macro_rules | `(tactic| walk_at "MY_PAD10") => `(tactic| fail)
local macro_rules | `(tactic| walk_at "MY_PAD11") => `(tactic| fail)
local macro_rules | `(tactic| walk_at "MY_PAD12") => `(tactic| fail)
local macro_rules | `(tactic| walk_at "MY_PAD13") => `(tactic| fail)
local macro_rules | `(tactic| walk_at "MY_PAD14") => `(tactic| fail)
local macro_rules | `(tactic| walk_at "MY_PAD15") => `(tactic| fail)
local macro_rules | `(tactic| walk_at "MY_PAD16") => `(tactic| fail)
theorem reset_MTold : True := by
  w_top off
  k_with_none
  trivial
local macro_rules | `(tactic| walk_at "truthy ref") => `(tactic| (k_here; (with_reducible show wpAny _ _ (truthy (Value.ref _)) _ _ _); k_dflt (refine' my_truthyS ?N ?m ?f ?_; (case N => k_asm); (case m => k_mem); (case f => omega); k_whole; intro tk9)))
local macro_rules | `(tactic| walk_at "subscriptTail Name UnaryOp ref int") => `(tactic| (k_here; (with_reducible show wpAny _ _ (subscriptTail _ _ (Value.ref _) (Value.int (-1) _)) _ _ _); k_dflt (refine' my_last ?N ?m ?_; (case N => k_asm); (case m => k_mem); k_whole)))
local macro_rules | `(tactic| k_mem) => `(tactic| assumption)
local macro_rules | `(tactic| walk_at "exec For") => `(tactic| (k_here; (rename Fr _ _ _ _ => lF'); (with_unfolding_all refine' For_turns lF' ?_); k_whole; walk_say "MY FOR"))
local macro_rules | `(tactic| walk_at "MY_ENTERC") => `(tactic| k_dflt (refine' code_defC ?k1 ?k2 ?k3 ?k4 ?k5 ?kA ?kF ?kK ?k6 ?k7 ?k8 ?k9 ?kB ?kD ?_ ?c2 ?c3 ?c4; (case kA => exact rfl); (case kF => exact rfl); (case kK => assumption); (case k1 => k_asm); (case k2 => k_asm); (case k3 => k_asm); (case k4 => k_asm); (case k5 => k_asm); (case k6 => k_is); (case k7 => k_is); (case k8 => ktr_room); (case k9 => first | exact BindsTo.of_eq rfl | exact binds_K (by k_in) rfl (by k_is) rfl rfl rfl | fail "k_enter: no rule for these arguments"); (case kB => exact rfl); (case kD => decide +kernel); (case c2 => exact rfl); (case c3 => exact rfl); (case c4 => exact rfl); k_whole; intro g' L' h' tk' cells' FG' F' N' Y' B' X' T' l1; (try k_lt l1); k_cells Y'; (try simp only [List.cons_append, List.nil_append] at N'); (try dsimp only); (try k_lift B'); (try k_fold)))
local macro_rules | `(tactic| walk_at "newList") => `(tactic| (k_here; k_dflt (refine' newList_K ?k1 ?k2 ?_; (case k1 => k_asm); (case k2 => k_asm); k_whole); intro l' h' F' N' l1; (try k_lt l1); (first
  | (have lo9 := allLt_ne l1) | (have lo9 := allLt_ne l1.2) | (have lo9 := allLt_ne l1.2.2) | (have lo9 := allLt_ne l1.2.2.2) | (have lo9 := allLt_ne l1.2.2.2.2) | (have lo9 := allLt_ne l1.2.2.2.2.2) | (have lo9 := allLt_ne l1.2.2.2.2.2.2)
  | (have lo9 := allLt_ne l1.2.2.2.2.2.2.2) | (have lo9 := allLt_ne l1.2.2.2.2.2.2.2.2) | (have lo9 := allLt_ne l1.2.2.2.2.2.2.2.2.2) | (have lo9 := allLt_ne l1.2.2.2.2.2.2.2.2.2.2) | (have lo9 := allLt_ne l1.2.2.2.2.2.2.2.2.2.2.2) | (have lo9 := allLt_ne l1.2.2.2.2.2.2.2.2.2.2.2.2)
  | (have lo9 := allLt_ne l1.2.2.2.2.2.2.2.2.2.2.2.2.2) | (have lo9 := allLt_ne l1.2.2.2.2.2.2.2.2.2.2.2.2.2.2) | (have lo9 := allLt_ne l1.2.2.2.2.2.2.2.2.2.2.2.2.2.2.2) | skip); (try k_sweep)))

local macro_rules | `(tactic| k_all) => `(tactic| assumption)
local macro_rules | `(tactic| walk_at $s:str) => `(tactic| k_extra $s)
section
variable {w : World} {p : Program} {loose : List Str} {mean : ExcName → Option Value} {mg mb : Str → Option Value}
  {dp un : Nat} {gd : Option (List Code)} {cn : Str} {cs : Scope} {a : Addr} {ccd : Value} {cl : List (Str × Addr)} {outer : List Env} {A₀ : Around} {base h₀ : Heap} {L : Addr} {m : Str → Option Value} {s : Shared} {Q E : Value → Shared → Prop}
theorem told_spec {R : List (Addr × Obj)} {l nn : Nat} {vs : List Value} {ts : List Tk}
    (B : Below A₀ base outer h₀) (F : Fr h₀ L s.heap m) (X : (hd.heap_39 w.params).In h₀) (N : News h₀ L s.heap R)
    (T : Top p loose mean mg mb h₀) (hk : cs.kind = .function) (hdp : dp + 2 < recursionLimit) (hu : un + 16 < cLine)
    (hl : (l, W.listOf vs.toArray nn) ∈ R) (hd : DatAll R vs (ts.map Tk.tk)) (hs : szs ts ≤ 900) (hne : ∀ x, Tk.ch x ∈ ts → x ≠ [])
    (ret : ∀ (o : Addr) nx h' tk', Bld o R (told ts) nx → Fr h₀ L h' m → News h₀ L h' nx → Q (.ref o) { s with heap := h', toks := tk' }) :
    wpAny (model PySem.Challenge.rw_wx0001_01.row.prog w) (ktrTop dp un gd cn cs L a ccd cl outer) (call (.ref 133) [.ref l]) Q E s := by
  revert X B F T; k_fill; intro B F X T
  k_with_none
  k_with "pyIter ref" => (
    (rename News _ _ _ _ => N0); (rename Fr _ _ _ _ => F0); (rename (∀ p ∈ R, _ < _) => l0)
    refine told_loop ts rfl F0 N0 (fun p hp q hq => by
      simp only [List.mem_cons, List.not_mem_nil, or_false] at hq
      subst hq
      exact Nat.ne_of_lt (l0 p hp)) hl hd hs hne rfl (fun i v r nx1 own u h9 tk9 hc hend F9 N9 => ?_) (fun nx u h9 tk9 hB F9 N9 => ?_)
    all_goals clear F0 N0
    all_goals (try (rcases hc with ⟨x, a, t0, t1, k, rfl, ht, hxl, hrl, e0, he, hz, hm, hB⟩ | ⟨c, k, a, b, t0, t1, t2, k1, k2, n, rfl, ht, he, hz, rfl, rfl, ho, hm, hm2⟩ | ⟨c, k, a, b, t0, t1, t2, k1, k2, n, t, r', vs, d, ob, old, rest, rfl, ht, he, hz, rfl, rfl, hr, ho, bo, hvs, hm, hm2⟩))
    all_goals (try (have e1 : (S x != PySem.Str.ofString "") = true := by unfold bne; rw [e0]; rfl))
    all_goals (try (have hne9 := bo.ne))
    all_goals (try (have hne8 := bo.ne')))
  k_with "call ref" => (
    k_dflt (refine' add_spec ?k1 ?k2 ?k3 ?k4 ?k5 ?k6 ?k7 ?k8 ?k9 ?k10 ?k11 ?_)
    (case k1 => k_asm)
    (case k2 => k_asm)
    (case k3 => k_asm)
    (case k4 => k_asm)
    (case k5 => k_asm)
    (case k6 => exact rfl)
    (case k7 => ktr_room)
    (case k8 => ktr_units)
    (case k9 => assumption)
    (case k10 => assumption)
    (case k11 => assumption)
    intro nx9 h9 tk9 B9 F9 N9
    k_sweep)
  refine wpAny_call ?_
  k_dflt cell_enter
  k_steps
  all_goals (rename Fr _ _ _ _ => Fz; rename News _ _ _ _ => Nz)
  all_goals first
    | (exact ret _ _ _ _ hB Fz Nz)
    | (exact hend _ _ _ _ _ Fz Nz B9 he hz rfl (by
         intro z h1 h2
         have h3 := h2
         simp only [List.forall_mem_cons, List.not_mem_nil, false_implies, implies_true, and_true, ne_eq] at h1
         simp only [List.contains_cons, List.contains_nil, Bool.or_false, Bool.or_eq_false_iff, beq_eq_false_iff_ne, ne_eq] at h2
         simp only [kstB, h1, h2, h3, if_false, Bool.false_eq_true]))
    | (rename (_ < _ ∧ _ < _ ∧ AllLt _ _) => l1
       simp only [List.push_toArray] at Nz
       exact hend _ _ _ _ _ Fz (news_swap Nz) (bld_snoc hr bo ho (.fd _ _ _ _) l1.1 l1.2.1 l1.2.2) he hz rfl (by
         intro z h1 h2
         have h3 := h2
         simp only [List.forall_mem_cons, List.not_mem_nil, false_implies, implies_true, and_true, ne_eq] at h1
         simp only [List.contains_cons, List.contains_nil, Bool.or_false, Bool.or_eq_false_iff, beq_eq_false_iff_ne, ne_eq] at h2
         simp only [kstB, h1, h2, h3, if_false, Bool.false_eq_true]))
    | (rename (_ < _ ∧ AllLt _ _) => l1
       exact hend _ _ _ _ _ Fz (news_swap Nz) (bld_one ho (.fd _ _ _ _) l1.1 (allLt_iff.mp l1.2)) he hz rfl (by
         intro z h1 h2
         have h3 := h2
         simp only [List.forall_mem_cons, List.not_mem_nil, false_implies, implies_true, and_true, ne_eq] at h1
         simp only [List.contains_cons, List.contains_nil, Bool.or_false, Bool.or_eq_false_iff, beq_eq_false_iff_ne, ne_eq] at h2
         simp only [kstB, h1, h2, h3, if_false, Bool.false_eq_true]))

end
end Mine

-- MRep
namespace Mine
set_option maxRecDepth 100000
set_option maxHeartbeats 8000000
/-- replace, by lists -/
noncomputable def repL (y z : List Nat) : List Nat → List Nat
  | [] => []
  | c :: l => if y.isPrefixOf (c :: l) then z ++ repL y z (l.drop (y.length - 1)) else c :: repL y z l
  termination_by l => l.length
  decreasing_by
    all_goals simp only [List.length_drop, List.length_cons]; omega
open StrLaws Builtin.Str in
noncomputable def occFrom (x y : Str) : Nat → Nat → Nat → List Nat
  | _, _, 0 => []
  | i, a, n + 1 => if (a ≤ i ∧ i + y.length ≤ x.length) ∧ subAt x y i = true then i :: occFrom x y (i + 1) (i + y.length) n else occFrom x y (i + 1) a n
open StrLaws Builtin.Str in
theorem occ_from (x y : Str) (limit : Nat) : ∀ (n i : Nat) (st : Array Nat × Nat), st.1.size + n ≤ limit →
    (forIn (List.range' i n) st (occBody x y x.length limit)).run.fst.toList = st.1.toList ++ occFrom x y i st.2 n
  | 0, i, st, _ => by simp [occFrom]
  | n + 1, i, st, h => by
    rw [List.range'_succ, List.forIn_cons]
    unfold occBody occFrom
    by_cases hc : (st.2 ≤ i ∧ i + y.length ≤ x.length) ∧ subAt x y i = true
    · rw [if_pos hc, if_pos ⟨⟨⟨by omega, hc.1.1⟩, hc.1.2⟩, hc.2⟩]
      have := occ_from x y limit n (i + 1) (st.1.push i, i + y.length) (by simp; omega)
      unfold occBody at this
      simpa using this
    · rw [if_neg hc, if_neg fun h => hc ⟨⟨h.1.1.2, h.1.2⟩, h.2⟩]
      have := occ_from x y limit n (i + 1) st (by omega)
      unfold occBody at this
      simpa using this
theorem repL_nil (y z : List Nat) : repL y z [] = [] := by rw [repL]
theorem repL_cons (y z : List Nat) (c : Nat) (l : List Nat) : repL y z (c :: l) = if y.isPrefixOf (c :: l) then z ++ repL y z (l.drop (y.length - 1)) else c :: repL y z l := by rw [repL]
theorem pre_iff (y l : List Nat) : y.isPrefixOf l = true ↔ l.take y.length = y := by
  rw [List.isPrefixOf_iff_prefix, List.prefix_iff_eq_take]
  exact eq_comm
theorem S_toList (x : List Nat) : (S x).cps.toList = x := by simp [S]
open StrLaws Builtin.Str in
theorem join_cons2 (z p : Str) (x : Str) (w a : Nat) (cuts : List Nat) : (Str.join z (p :: partsFrom x w a cuts)).cps.toList = p.cps.toList ++ z.cps.toList ++ (Str.join z (partsFrom x w a cuts)).cps.toList := by
  obtain ⟨q, r, e⟩ := partsFrom_ne x w a cuts
  rw [e]
  show (p ++ z ++ Str.join z (q :: r)).cps.toList = _
  simp only [Str.cps_append, Array.toList_append]
open StrLaws Builtin.Str in
theorem join_from (x y z : List Nat) (hy : y ≠ []) : ∀ n i a, i + n = x.length + 1 → a ≤ x.length →
    (a ≤ i → (Str.join (S z) (partsFrom (S x) y.length a (occFrom (S x) (S y) i a n))).cps.toList = (x.drop a).take (i - a) ++ repL y z (x.drop i)) ∧
    (i < a → (Str.join (S z) (partsFrom (S x) y.length a (occFrom (S x) (S y) i a n))).cps.toList = repL y z (x.drop a))
  | 0, i, a, hi, ha => by
    refine ⟨fun h => ?_, fun h => by omega⟩
    show (strSub (S x) a (S x).length).cps.toList = _
    rw [strSub_toList, S_toList, S_length]
    have e1 : x.drop i = [] := List.drop_eq_nil_of_le (by omega)
    rw [e1, repL_nil, List.append_nil, List.take_of_length_le (by simp), List.take_of_length_le (by simp; omega)]
  | n + 1, i, a, hi, ha => by
    have hw : 1 ≤ y.length := by cases y with | nil => exact absurd rfl hy | cons => simp
    unfold occFrom
    rw [S_length, S_length]
    by_cases hc : (a ≤ i ∧ i + y.length ≤ x.length) ∧ subAt (S x) (S y) i = true
    · rw [if_pos hc]
      refine ⟨fun _ => ?_, fun h => by omega⟩
      have hs := hc.2
      rw [subAt_eq, S_toList, S_toList, S_length] at hs
      have hpre : y.isPrefixOf (x.drop i) = true := (pre_iff _ _).mpr (eq_of_beq hs)
      have ih := join_from x y z hy n (i + 1) (i + y.length) (by omega) hc.1.2
      show (Str.join (S z) (strSub (S x) a i :: partsFrom (S x) y.length (i + y.length) _)).cps.toList = _
      rw [join_cons2, S_toList, strSub_toList, S_toList]
      have e2 : (Str.join (S z) (partsFrom (S x) y.length (i + y.length) (occFrom (S x) (S y) (i + 1) (i + y.length) n))).cps.toList = repL y z (x.drop (i + y.length)) := by
        rcases Nat.lt_or_ge (i + 1) (i + y.length) with h1 | h1
        · exact ih.2 h1
        · have : i + y.length = i + 1 := by omega
          rw [ih.1 h1, this]; simp
      rw [e2]
      have hlt : i < x.length := by omega
      rw [List.drop_eq_getElem_cons hlt] at hpre ⊢
      rw [repL_cons, if_pos hpre, List.drop_drop, List.append_assoc]
      congr 4
      omega
    · rw [if_neg hc]
      have ih := join_from x y z hy n (i + 1) a (by omega) ha
      refine ⟨fun h => ?_, fun h => ?_⟩
      · rw [ih.1 (by omega)]
        rcases Nat.lt_or_ge i x.length with hlt | hge
        · have hnp : ¬ y.isPrefixOf (x.drop i) = true := fun hp => hc (by
            have h2 := (pre_iff _ _).mp hp
            have h3 : i + y.length ≤ x.length := by
              have := congrArg List.length h2
              simp only [List.length_take, List.length_drop] at this
              omega
            refine ⟨⟨h, h3⟩, ?_⟩
            rw [subAt_eq, S_toList, S_toList, S_length, h2]
            exact beq_self_eq_true y)
          rw [List.drop_eq_getElem_cons hlt] at hnp ⊢
          rw [repL_cons, if_neg hnp]
          have e3 : i + 1 - a = (i - a) + 1 := by omega
          rw [e3, List.take_add_one, List.getElem?_drop]
          have e4 : a + (i - a) = i := by omega
          rw [e4, List.getElem?_eq_getElem hlt]
          simp
        · have e1 : x.drop i = [] := List.drop_eq_nil_of_le hge
          have e2 : x.drop (i + 1) = [] := List.drop_eq_nil_of_le (by omega)
          rw [e1, e2, List.take_of_length_le (by simp; omega), List.take_of_length_le (by simp; omega)]
      · rcases Nat.lt_or_ge (i + 1) a with h1 | h1
        · exact ih.2 h1
        · have : a = i + 1 := by omega
          rw [ih.1 h1, this]; simp
open StrLaws Builtin.Str in
theorem replace_S (x y z : List Nat) (hy : y ≠ []) : Txt.replace (S x) (S y) (S z) = S (repL y z x) := by
  have hw : 1 ≤ y.length := by cases y with | nil => exact absurd rfl hy | cons => simp
  have e0 : occurrences (S x) (S y) 0 (S x).length ((S x).length + 1) = occFrom (S x) (S y) 0 0 (x.length + 1) := by
    rw [occ_eq, S_length]
    have := occ_from (S x) (S y) (x.length + 1) (x.length + 1) 0 (#[], 0) (by simp)
    rw [S_length] at this
    simpa using this
  have e1 := (join_from x y z hy (x.length + 1) 0 0 (by omega) (Nat.zero_le _)).1 (Nat.le_refl _)
  simp only [List.drop_zero, Nat.sub_self, List.take_zero, List.nil_append] at e1
  unfold Txt.replace
  rw [e0]
  split
  · rename_i hc
    have h1 : occFrom (S x) (S y) 0 0 (x.length + 1) = [] := by
      have h2 : (y.length == 0) = false := by simp; omega
      simp only [S_length, h2, Bool.false_and, Bool.or_false] at hc
      exact List.isEmpty_iff.mp hc
    rw [h1] at e1
    have e2 : (strSub (S x) 0 (S x).length).cps.toList = repL y z x := e1
    rw [strSub_toList, S_toList, S_length] at e2
    simp only [List.drop_zero, Nat.sub_zero, List.take_length] at e2
    rw [← e2]
  · rw [glued_eq_join, partsBetween_eq, S_length]
    rw [← e1]
theorem repL_one (c : Nat) (z x : List Nat) : repL [c] z x = x.flatMap fun d => if d = c then z else [d] := by
  induction x with
  | nil => rw [repL_nil]; rfl
  | cons d l ih =>
    rw [repL_cons, List.flatMap_cons]
    by_cases h : d = c
    · subst h
      simp [List.isPrefixOf, ih]
    · have h2 : ¬ c = d := fun e => h e.symm
      simp [List.isPrefixOf, ih, h, h2]
section
variable {w : World} {p : Program} {loose : List Str} {mean : ExcName → Option Value} {mg mb : Str → Option Value}
  {dp un : Nat} {gd : Option (List Code)} {cn : Str} {cs : Scope} {a : Addr} {ccd : Value} {cl : List (Str × Addr)} {outer : List Env} {A₀ : Around} {base h₀ : Heap} {L : Addr} {m : Str → Option Value} {s : Shared} {Q E : Value → Shared → Prop}

end
end Mine

-- MStrL
namespace Mine
set_option maxRecDepth 100000
set_option maxHeartbeats 8000000
section
variable {prog : Program} {w : World} {A : Around} {E : Value → Shared → Prop} {Q : Flow → Shared → Prop} {s : Shared} {env : Env} {g : Heap} {body : List Stmt}
/-- over a text's signs -/
theorem mstr {σ : Type} {xt : List Nat} {tx : Tok} {tn : Str} {tp : Pos} {m₀ : Str → Option Value} (Led : σ → List (Addr × Obj)) (ps : σ → List (Str × Value)) (Facts : Nat → σ → Prop) (stored : List Str) (c₀ : σ)
    (hh : A.handled = none)
    (F : Fr g env.locals s.heap m₀) (N : News g env.locals s.heap (Led c₀)) (hf : Facts 0 c₀) (hk : ∀ p ∈ ps c₀, m₀ p.1 = some p.2)
    (turn : ∀ i d td (c : σ) (u : Str → Option Value) h tk own, xt[i]? = some d → Facts i c → OwnOff own ((Led c).map (·.1)) →
      Fr g env.locals h (kstB (fun z => if stored.contains z then u z else m₀ z) (ps c)) → News g env.locals h (Led c ++ own) →
      wpAny (model prog w) A (assign (.Name tn tp) env (.str (S [d]) td)) (fun _ s₃ => wpAny (model prog w) A (execs body env) (MPost g env.locals { s with heap := h, toks := tk } Led ps Facts stored m₀ own Q (i + 1)) E s₃) E { s with heap := h, toks := tk })
    (done : ∀ (c : σ) (u : Str → Option Value) h tk, Facts xt.length c → Fr g env.locals h (kstB (fun z => if stored.contains z then u z else m₀ z) (ps c)) → News g env.locals h (Led c) → Q .next { s with heap := h, toks := tk }) :
    wpAny (model prog w) A (pyIter (.str (S xt) tx)) (fun it s₂ => TurnsAt prog w A g env (.Name tn tp) body Q E it s₂) E s := by
  have key : ∀ (o : Obj) (St : Nat → Heap → Prop), Walks prog w A s.heap.objs.size [s.heap.objs.size] [s.heap.objs.size] (S xt).cps.size (SignAt (S xt)) St → St 0 (s.heap.push o) → (∀ i h, St i h → ∃ ob, h.get? s.heap.objs.size = some ob) →
      TurnsAt prog w A g env (.Name tn tp) body Q E (.ref s.heap.objs.size) { s with heap := s.heap.push o } := by
    intro o St WK hst hob
    have hlen : (S xt).cps.size = xt.length := S_length xt
    rw [hlen] at WK
    refine mturns (I := s.heap.objs.size) Led ps Facts stored c₀ [] (KTurns.ofWalks (target := .Name tn tp) WK (fun i v s' Q' E' hst hQ' => by unfold letOwnedTupleGo; exact wpAny_pure hQ')) ?_ ?_ ?_ ?_ ?_ ?_ hst (F.push _) (fun p hp => ⟨Heap.get?_push_of_some _ (N p hp).1, (N p hp).2⟩) ?_ hf hk ?_ ?_
    · intro hm
      exact absurd F.ns.lt ((List.mem_singleton.mp hm) ▸ Nat.lt_irrefl _)
    · intro b hb
      rw [List.mem_singleton.mp hb]
      exact next_is_new F
    · intro i c hc p hp
      cases hp
    · intro b hb
      exact .inl hb
    · intro b hb
      exact hb
    · intro i h hst b hb
      rw [List.mem_singleton.mp hb]
      exact hob i h hst
    · intro p hp hI
      exact absurd (Heap.lt_size (N p hp).1) ((List.mem_singleton.mp hI) ▸ Nat.lt_irrefl _)
    · rintro i v c u h tk own hi ⟨d, td, hd, rfl⟩ hf' hoff F' N'
      exact turn i d td c u h tk own (by simpa [S] using hd) hf' hoff F' N'
    · intro c u h tk hf' F' N'
      exact done c u h tk hf' F' N'
  cases ha : (S xt).cps.all (· < 128)
  · exact wpAny_pyIter_wide ha (key _ _ (Walks.strWide hh _ (S xt) tx) ⟨_, Heap.get?_push_size _ rfl, rfl, rfl⟩ fun i h ⟨o, ho, _⟩ => ⟨o, ho⟩)
  · exact wpAny_pyIter_ascii ha (key _ _ (Walks.strAscii hh _ (S xt) tx) ⟨_, Heap.get?_push_size _ rfl, rfl, rfl⟩ fun i h ⟨o, ho, _⟩ => ⟨o, ho⟩)
end
section
variable {w : World} {p : Program} {loose : List Str} {mean : ExcName → Option Value} {mg mb : Str → Option Value}
  {dp un : Nat} {gd : Option (List Code)} {cn : Str} {cs : Scope} {a : Addr} {ccd : Value} {cl : List (Str × Addr)} {outer : List Env} {A₀ : Around} {base h₀ : Heap} {L : Addr} {m : Str → Option Value} {s : Shared} {Q E : Value → Shared → Prop}

end
end Mine

-- MTokP
namespace Mine
set_option maxRecDepth 100000
set_option maxHeartbeats 8000000
structure CodeOb (q : Str) (c : Addr) (R : List (Addr × Obj)) : Prop where
  ex : ∃ oc vs t, (c, oc) ∈ R ∧ oc.data = .fields vs ∧ vs[1]? = some (.str q t)
noncomputable abbrev qChars : Str := PySem.Str.ofString "tokenize_pattern.<locals>.append_chars"
noncomputable abbrev qField : Str := PySem.Str.ofString "tokenize_pattern.<locals>.append_field"
noncomputable abbrev halfTab (c1 : Addr) : Array Value := #[rawInt 40, rawInt 4, .ref c1]
noncomputable abbrev fullTab (c1 c2 : Addr) : Array Value := #[rawInt 40, rawInt 4, .ref c1, rawInt 44, rawInt 4, .ref c2]
inductive TabS (ps : Array Value) (R : List (Addr × Obj)) : Prop where
  | nil : ps = #[] → TabS ps R
  | full (c1 c2 : Addr) : ps = fullTab c1 c2 → CodeOb qChars c1 R → CodeOb qField c2 R → TabS ps R
inductive Tab1 (c1 : Addr) (ps : Array Value) (R : List (Addr × Obj)) : Prop where
  | half : ps = halfTab c1 → Tab1 c1 ps R
  | full (c2 : Addr) : ps = fullTab c1 c2 → CodeOb qField c2 R → Tab1 c1 ps R
theorem updF_same {d : Addr} {o : Obj} {l : List (Addr × Obj)} {g : Obj → List (Addr × Obj)} (U : UpdF d o l g) : g o = l := by
  obtain ⟨pre, post, e1, e2, _, _⟩ := U.split
  rw [e2, e1]
theorem updF_mem {d : Addr} {o : Obj} {l : List (Addr × Obj)} {g : Obj → List (Addr × Obj)} (U : UpdF d o l g) : (d, o) ∈ l := by
  obtain ⟨pre, post, e1, e2, _, _⟩ := U.split
  rw [e1]; exact List.mem_append_right _ (.head _)
section
variable {M : Model} {A : Around} {E : Value → Shared → Prop} {s : Shared} {h₀ : Heap} {L a c P : Addr} {m mg mb : Str → Option Value} {cn : Str} {cs : Scope} {ccd : Value} {cl : List (Str × Addr)} {news : List (Addr × Obj)} {g : Obj → List (Addr × Obj)}
  {p : Program} {loose : List Str} {mean : ExcName → Option Value} {name qual : Str} {params : Arguments} {body : List Stmt} {scope : Scope} {ps : Array Value} {pos : Pos} {firstLine : Nat} {clos : List (Str × Addr)}
theorem nest_any {Q : Value → Shared → Prop} {R : List (Addr × Obj)} {as : List Addr} (F : Fr h₀ L s.heap m) (N : News h₀ L s.heap news) (T : Top p loose mean mg mb h₀) (C : CodeHd h₀ c P) (hcd : ccd = .ref c) (U : UpdF P (tabObj ps) news g) (ht : TriplesOk ps.toList)
    (hcl : closureFor scope (envX cn cs L a ccd cl) = pure clos)
    (hc : codeAmong pos ps.toList = none ∨ ∃ c', codeAmong pos ps.toList = some (.ref c') ∧ CodeOb qual c' R) (hR : ∀ p ∈ R, p ∈ news) (hoff : ∀ b ∈ as, ∀ p ∈ R, p.1 ≠ b) (hin : ∀ b ∈ as, ∃ o, (b, o) ∈ news)
    (h : ∀ f c' oc vs t ctv doc h' tk ps1, Fr h₀ L h' m →
      News h₀ L h' ((f, fnMade name qual params body scope clos doc ((mg "__name__").getD .none) c' ctv) :: (c', oc) :: g (tabObj ps1)) →
      oc.data = .fields vs → vs[1]? = some (.str qual t) → (∀ q ∈ news, q.1 < f) → c' < f → (∀ b ∈ as, (c' : Nat) ≠ b) →
      ((ps1 = ps ∧ codeAmong pos ps.toList = some (.ref c')) ∨ (codeAmong pos ps.toList = none ∧ ps1 = ps ++ #[rawInt pos.line, rawInt pos.col, .ref c'])) → Q (.ref f) { s with heap := h', toks := tk }) :
    wpAny M A (makeFunction name qual params (.stmts body) scope (envX cn cs L a ccd cl) [] [] [] pos firstLine) Q E s := by
  rcases hc with hc | ⟨c', hc, ⟨oc, vs, t, h1, h2, h3⟩⟩
  · refine nest_K F N T C hcd U ht hc hcl fun f c' oc vs t ctv doc h' tk F' N' hd hv hl hlt => ?_
    refine h f c' oc vs t ctv doc h' tk _ F' N' hd hv (fun q hq => Nat.lt_trans (hl q hq) hlt) hlt (fun b hb => ?_) (.inr ⟨hc, rfl⟩)
    obtain ⟨o, ho⟩ := hin b hb
    exact (Nat.ne_of_lt (hl _ ho)).symm
  · refine nestHit_K F N T C hcd (updF_mem U) ht hc hcl fun f ctv doc h' tk F' N' hl => ?_
    refine h f c' oc vs t ctv doc h' tk ps F' ?_ h2 h3 hl (hl _ (hR _ h1)) (fun b hb => hoff b hb _ h1) (.inl ⟨rfl, hc⟩)
    rw [updF_same U]
    intro q hq
    rcases List.mem_cons.mp hq with rfl | hq
    · exact N' _ (.head _)
    · rcases List.mem_cons.mp hq with rfl | hq
      · exact N' _ (.tail _ (hR _ h1))
      · exact N' _ (.tail _ hq)
theorem nest_1 {Q : Value → Shared → Prop} {R : List (Addr × Obj)} {as : List Addr} {el ec : Nat} (F : Fr h₀ L s.heap m) (N : News h₀ L s.heap news) (T : Top p loose mean mg mb h₀) (C : CodeHd h₀ c P) (hcd : ccd = .ref c) (hS : TabS ps R) (U : UpdF P (tabObj ps) news g)
    (hcl : closureFor scope (envX cn cs L a ccd cl) = pure clos) (hR : ∀ p ∈ R, p ∈ news) (hoff : ∀ b ∈ as, ∀ p ∈ R, p.1 ≠ b) (hin : ∀ b ∈ as, ∃ o, (b, o) ∈ news)
    (h : ∀ f c' oc vs t ctv doc h' tk ps1, Fr h₀ L h' m →
      News h₀ L h' ((f, fnMade name qChars params body scope clos doc ((mg "__name__").getD .none) c' ctv) :: (c', oc) :: g (tabObj ps1)) →
      oc.data = .fields vs → vs[1]? = some (.str qChars t) → (∀ q ∈ news, q.1 < f) → c' < f → (∀ b ∈ as, (c' : Nat) ≠ b) → Tab1 c' ps1 R → Q (.ref f) { s with heap := h', toks := tk }) :
    wpAny M A (makeFunction name qChars params (.stmts body) scope (envX cn cs L a ccd cl) [] [] [] ⟨40, 4, el, ec⟩ firstLine) Q E s := by
  refine nest_any (R := R) (as := as) F N T C hcd U ?_ hcl ?_ hR hoff hin fun f c' oc vs t ctv doc h' tk ps1 F' N' hd hv hl hlt hne hcase => h f c' oc vs t ctv doc h' tk ps1 F' N' hd hv hl hlt hne ?_
  · rcases hS with rfl | ⟨c1, c2, rfl, _, _⟩
    · exact True.intro
    · simp [TriplesOk, rawInt]
  · rcases hS with rfl | ⟨c1, c2, rfl, h1, _⟩
    · exact .inl rfl
    · exact .inr ⟨c1, by simp [codeAmong, rawInt], h1⟩
  · rcases hS with rfl | ⟨c1, c2, rfl, _, h2⟩
    · rcases hcase with ⟨_, e⟩ | ⟨_, e⟩
      · cases e
      · exact .half e
    · rcases hcase with ⟨rfl, e⟩ | ⟨e, _⟩
      · have e2 : codeAmong ⟨40, 4, el, ec⟩ (fullTab c1 c2).toList = some (.ref c1) := by simp [codeAmong, rawInt]
        rw [e2] at e
        cases e
        exact .full c2 rfl h2
      · have e2 : codeAmong ⟨40, 4, el, ec⟩ (fullTab c1 c2).toList = some (.ref c1) := by simp [codeAmong, rawInt]
        rw [e2] at e
        cases e
theorem nest_2 {Q : Value → Shared → Prop} {R : List (Addr × Obj)} {as : List Addr} {el ec : Nat} {c1 : Addr} (F : Fr h₀ L s.heap m) (N : News h₀ L s.heap news) (T : Top p loose mean mg mb h₀) (C : CodeHd h₀ c P) (hcd : ccd = .ref c) (hS : Tab1 c1 ps R) (U : UpdF P (tabObj ps) news g)
    (hcl : closureFor scope (envX cn cs L a ccd cl) = pure clos) (hR : ∀ p ∈ R, p ∈ news) (hoff : ∀ b ∈ as, ∀ p ∈ R, p.1 ≠ b) (hin : ∀ b ∈ as, ∃ o, (b, o) ∈ news)
    (h : ∀ f c' oc vs t ctv doc h' tk, Fr h₀ L h' m →
      News h₀ L h' ((f, fnMade name qField params body scope clos doc ((mg "__name__").getD .none) c' ctv) :: (c', oc) :: g (tabObj (fullTab c1 c'))) →
      oc.data = .fields vs → vs[1]? = some (.str qField t) → (∀ q ∈ news, q.1 < f) → c' < f → (∀ b ∈ as, (c' : Nat) ≠ b) → Q (.ref f) { s with heap := h', toks := tk }) :
    wpAny M A (makeFunction name qField params (.stmts body) scope (envX cn cs L a ccd cl) [] [] [] ⟨44, 4, el, ec⟩ firstLine) Q E s := by
  have eh : codeAmong ⟨44, 4, el, ec⟩ (halfTab c1).toList = none := by simp [codeAmong, rawInt]
  have ef : ∀ c2, codeAmong ⟨44, 4, el, ec⟩ (fullTab c1 c2).toList = some (.ref c2) := fun c2 => by simp [codeAmong, rawInt]
  refine nest_any (R := R) (as := as) F N T C hcd U ?_ hcl ?_ hR hoff hin fun f c' oc vs t ctv doc h' tk ps1 F' N' hd hv hl hlt hne hcase => h f c' oc vs t ctv doc h' tk F' ?_ hd hv hl hlt hne
  · rcases hS with rfl | ⟨c2, rfl, _⟩
    · simp [TriplesOk, rawInt]
    · simp [TriplesOk, rawInt]
  · rcases hS with rfl | ⟨c2, rfl, h1⟩
    · exact .inl eh
    · exact .inr ⟨c2, ef c2, h1⟩
  · have e1 : ps1 = fullTab c1 c' := by
      rcases hS with rfl | ⟨c2, rfl, h2⟩
      · rcases hcase with ⟨_, e⟩ | ⟨_, e⟩
        · rw [eh] at e; cases e
        · rw [e]; rfl
      · rcases hcase with ⟨rfl, e⟩ | ⟨e, _⟩
        · rw [ef] at e
          cases e
          rfl
        · rw [ef] at e
          cases e
    rw [← e1]; exact N'
theorem nest_1' {Q : Value → Shared → Prop} {R rest : List (Addr × Obj)} {el ec : Nat} {ln lf lc lr : Addr} {On Of Oc Or : Obj} (F : Fr h₀ L s.heap m) (N : News h₀ L s.heap ((ln, On) :: (lf, Of) :: (lc, Oc) :: (lr, Or) :: rest)) (T : Top p loose mean mg mb h₀) (C : CodeHd h₀ c P) (hcd : ccd = .ref c) (hq : qual = qChars) (hS : TabS ps R)
    (U : UpdF P (tabObj ps) ((ln, On) :: (lf, Of) :: (lc, Oc) :: (lr, Or) :: rest) g)
    (hcl : closureFor scope (envX cn cs L a ccd cl) = pure clos) (hR : ∀ p ∈ R, p ∈ ((ln, On) :: (lf, Of) :: (lc, Oc) :: (lr, Or) :: rest))
    (k97 : ∀ p ∈ R, p.1 ≠ P) (kn : ∀ p ∈ R, p.1 ≠ ln) (kf : ∀ p ∈ R, p.1 ≠ lf) (kc : ∀ p ∈ R, p.1 ≠ lc) (kr : ∀ p ∈ R, p.1 ≠ lr)
    (h : ∀ f c' oc vs t ctv doc h' tk ps1, Fr h₀ L h' m →
      News h₀ L h' ((f, fnMade name qual params body scope clos doc ((mg "__name__").getD .none) c' ctv) :: (c', oc) :: g (tabObj ps1)) →
      oc.data = .fields vs → vs[1]? = some (.str qual t) → (∀ q ∈ ((ln, On) :: (lf, Of) :: (lc, Oc) :: (lr, Or) :: rest), q.1 < f) → c' < f → (c' : Nat) ≠ P → (c' : Nat) ≠ ln → (c' : Nat) ≠ lf → (c' : Nat) ≠ lc → (c' : Nat) ≠ lr → Tab1 c' ps1 R → Q (.ref f) { s with heap := h', toks := tk }) :
    wpAny M A (makeFunction name qual params (.stmts body) scope (envX cn cs L a ccd cl) [] [] [] ⟨40, 4, el, ec⟩ firstLine) Q E s := by
  subst hq
  refine nest_1 (R := R) (as := [P, ln, lf, lc, lr]) F N T C hcd hS U hcl hR ?_ ?_ fun f c' oc vs t ctv doc h' tk ps1 F' N' hd hv hl hlt hne h1 => ?_
  · intro b hb
    simp only [List.mem_cons, List.not_mem_nil, or_false] at hb
    rcases hb with rfl | rfl | rfl | rfl | rfl
    · exact k97
    · exact kn
    · exact kf
    · exact kc
    · exact kr
  · intro b hb
    simp only [List.mem_cons, List.not_mem_nil, or_false] at hb
    rcases hb with rfl | rfl | rfl | rfl | rfl
    · exact ⟨_, updF_mem U⟩
    · exact ⟨_, .head _⟩
    · exact ⟨_, .tail _ (.head _)⟩
    · exact ⟨_, .tail _ (.tail _ (.head _))⟩
    · exact ⟨_, .tail _ (.tail _ (.tail _ (.head _)))⟩
  · exact h f c' oc vs t ctv doc h' tk ps1 F' N' hd hv hl hlt (hne _ (.head _)) (hne _ (.tail _ (.head _))) (hne _ (.tail _ (.tail _ (.head _)))) (hne _ (.tail _ (.tail _ (.tail _ (.head _))))) (hne _ (.tail _ (.tail _ (.tail _ (.tail _ (.head _)))))) h1
theorem nest_2' {Q : Value → Shared → Prop} {R rest : List (Addr × Obj)} {el ec : Nat} {ln lf lc lr f1 c1 : Addr} {On Of Oc Or F1 C1 : Obj} (F : Fr h₀ L s.heap m) (N : News h₀ L s.heap ((f1, F1) :: (c1, C1) :: (ln, On) :: (lf, Of) :: (lc, Oc) :: (lr, Or) :: rest)) (T : Top p loose mean mg mb h₀) (C : CodeHd h₀ c P) (hcd : ccd = .ref c) (hq : qual = qField) (hS : Tab1 c1 ps R)
    (U : UpdF P (tabObj ps) ((f1, F1) :: (c1, C1) :: (ln, On) :: (lf, Of) :: (lc, Oc) :: (lr, Or) :: rest) g)
    (hcl : closureFor scope (envX cn cs L a ccd cl) = pure clos) (hR : ∀ p ∈ R, p ∈ ((f1, F1) :: (c1, C1) :: (ln, On) :: (lf, Of) :: (lc, Oc) :: (lr, Or) :: rest))
    (k97 : ∀ p ∈ R, p.1 ≠ P) (kn : ∀ p ∈ R, p.1 ≠ ln) (kf : ∀ p ∈ R, p.1 ≠ lf) (kc : ∀ p ∈ R, p.1 ≠ lc) (kr : ∀ p ∈ R, p.1 ≠ lr)
    (h : ∀ f c' oc vs t ctv doc h' tk, Fr h₀ L h' m →
      News h₀ L h' ((f, fnMade name qual params body scope clos doc ((mg "__name__").getD .none) c' ctv) :: (c', oc) :: g (tabObj (fullTab c1 c'))) →
      oc.data = .fields vs → vs[1]? = some (.str qual t) → (∀ q ∈ ((f1, F1) :: (c1, C1) :: (ln, On) :: (lf, Of) :: (lc, Oc) :: (lr, Or) :: rest), q.1 < f) → c' < f → (c' : Nat) ≠ P → (c' : Nat) ≠ ln → (c' : Nat) ≠ lf → (c' : Nat) ≠ lc → (c' : Nat) ≠ lr → Q (.ref f) { s with heap := h', toks := tk }) :
    wpAny M A (makeFunction name qual params (.stmts body) scope (envX cn cs L a ccd cl) [] [] [] ⟨44, 4, el, ec⟩ firstLine) Q E s := by
  subst hq
  refine nest_2 (R := R) (as := [P, ln, lf, lc, lr]) F N T C hcd hS U hcl hR ?_ ?_ fun f c' oc vs t ctv doc h' tk F' N' hd hv hl hlt hne => ?_
  · intro b hb
    simp only [List.mem_cons, List.not_mem_nil, or_false] at hb
    rcases hb with rfl | rfl | rfl | rfl | rfl
    · exact k97
    · exact kn
    · exact kf
    · exact kc
    · exact kr
  · intro b hb
    simp only [List.mem_cons, List.not_mem_nil, or_false] at hb
    rcases hb with rfl | rfl | rfl | rfl | rfl
    · exact ⟨_, updF_mem U⟩
    · exact ⟨_, .tail _ (.tail _ (.head _))⟩
    · exact ⟨_, .tail _ (.tail _ (.tail _ (.head _)))⟩
    · exact ⟨_, .tail _ (.tail _ (.tail _ (.tail _ (.head _))))⟩
    · exact ⟨_, .tail _ (.tail _ (.tail _ (.tail _ (.tail _ (.head _)))))⟩
  · exact h f c' oc vs t ctv doc h' tk F' N' hd hv hl hlt (hne _ (.head _)) (hne _ (.tail _ (.head _))) (hne _ (.tail _ (.tail _ (.head _)))) (hne _ (.tail _ (.tail _ (.tail _ (.head _))))) (hne _ (.tail _ (.tail _ (.tail _ (.tail _ (.head _))))))
end
section
variable {w : World} {p : Program} {loose : List Str} {mean : ExcName → Option Value} {mg mb : Str → Option Value}
  {dp un : Nat} {gd : Option (List Code)} {cn : Str} {cs : Scope} {a : Addr} {ccd : Value} {cl : List (Str × Addr)} {outer : List Env} {A₀ : Around} {base h₀ : Heap} {L : Addr} {m : Str → Option Value} {s : Shared} {Q E : Value → Shared → Prop}

end
end Mine

-- MTokQ
namespace Mine
set_option maxRecDepth 100000
set_option maxHeartbeats 8000000
/-- a pattern's letters, all of them -/
noncomputable def isPC (c : Nat) : Bool := [71, 121, 89, 117, 81, 113, 77, 76, 119, 87, 100, 68, 70, 103, 69, 101, 99, 97, 98, 66, 104, 72, 75, 107, 109, 115, 83, 65, 122, 90, 79, 118, 86, 120, 88].contains c
noncomputable def unq (x : List Nat) : List Nat := x.flatMap fun d => if d = 0 then [39] else [d]
structure KA where
  res : List Tk
  cb : List Nat
  fd : Option (Nat × Nat)
  qb : Option (List Nat)
noncomputable def kF : List Tk → Option (Nat × Nat) → List Tk
  | r, some (c, n) => .fd c n :: r
  | r, none => r
noncomputable def kC (r : List Tk) (cb : List Nat) : List Tk := if cb = [] then r else .ch (unq cb) :: r
noncomputable def kInc (r : List Tk) (d : Nat) : Option (Nat × Nat) → List Tk × (Nat × Nat)
  | some (c, n) => if c = d then (r, (c, n + 1)) else (.fd c n :: r, (d, 1))
  | none => (r, (d, 1))
noncomputable def kStep (k : KA) (d : Nat) : KA :=
  match k.qb with
  | none => if d = 39 then ⟨kC (kF k.res k.fd) k.cb, [], none, some []⟩
    else if isPC d then ⟨(kInc (kC k.res k.cb) d k.fd).1, [], some (kInc (kC k.res k.cb) d k.fd).2, none⟩
    else ⟨kF k.res k.fd, k.cb ++ [d], none, none⟩
  | some q => if d = 39 then ⟨k.res, k.cb ++ q, k.fd, none⟩ else ⟨k.res, k.cb, k.fd, some (q ++ [d])⟩
noncomputable def kInit : KA := ⟨[], [], none, none⟩
noncomputable def kEnd (k : KA) : List Tk := kC (kF k.res k.fd) k.cb
noncomputable def kRun (y : List Nat) : KA := y.foldl kStep kInit
noncomputable def tokR (x : List Nat) : List Tk := kEnd (kRun (repL [39, 39] [0] x))
noncomputable def fdSz : Option (Nat × Nat) → Nat
  | some (_, n) => n + 1
  | none => 0
noncomputable def qSz : Option (List Nat) → Nat
  | some q => q.length
  | none => 0
noncomputable def kSz (k : KA) : Nat := szs k.res + (if k.cb = [] then 0 else k.cb.length + 1) + fdSz k.fd + qSz k.qb
theorem unq_length (x : List Nat) : (unq x).length = x.length := by
  induction x with
  | nil => rfl
  | cons d l ih => unfold unq at ih ⊢; rw [List.flatMap_cons, List.length_append, ih]; by_cases h : d = 0 <;> simp [h] <;> omega
theorem szs_kC (r : List Tk) (cb : List Nat) : szs (kC r cb) = szs r + (if cb = [] then 0 else cb.length + 1) := by
  unfold kC
  split
  · rfl
  · rw [szs_cons, Tk.sz, unq_length]; omega
theorem szs_kF (r : List Tk) (fd : Option (Nat × Nat)) : szs (kF r fd) = szs r + fdSz fd := by
  cases fd with
  | none => rfl
  | some p => show szs (_ :: _) = _; rw [szs_cons]; simp only [Tk.sz, fdSz]; omega
theorem kSz_step (k : KA) (d : Nat) : kSz (kStep k d) ≤ kSz k + 2 := by
  obtain ⟨res, cb, fd, qb⟩ := k
  cases qb with
  | none =>
    unfold kStep
    dsimp only
    split
    · simp only [kSz, szs_kC, szs_kF, if_pos, fdSz, qSz, List.length_nil]; omega
    · split
      · cases fd with
        | none => simp only [kSz, kInc, szs_kC, fdSz, qSz, if_pos]; omega
        | some p =>
          simp only [kInc]
          split
          · simp only [kSz, szs_kC, fdSz, qSz, if_pos]; omega
          · simp only [kSz, szs_cons, Tk.sz, szs_kC, fdSz, qSz, if_pos]; omega
      · simp only [kSz, szs_kF, fdSz, qSz]
        have h1 : cb ++ [d] ≠ [] := by simp
        rw [if_neg h1, List.length_append, List.length_singleton]
        by_cases h : cb = []
        · subst h; simp only [List.length_nil, if_pos]; omega
        · rw [if_neg h]; omega
  | some q =>
    unfold kStep
    dsimp only
    split
    · simp only [kSz, qSz]
      by_cases h : cb = []
      · subst h
        rw [List.nil_append]
        by_cases h : q = []
        · subst h; simp
        · rw [if_neg h]; simp only [if_pos]; omega
      · have h1 : cb ++ q ≠ [] := by simp [h]
        rw [if_neg h1, if_neg h, List.length_append]; omega
    · simp only [kSz, qSz, List.length_append, List.length_singleton]; omega
structure KInv (k : KA) : Prop where
  ex : k.fd = none ∨ k.cb = []
  exq : k.qb ≠ none → k.fd = none
theorem kInv_step {k : KA} (h : KInv k) (d : Nat) : KInv (kStep k d) := by
  obtain ⟨res, cb, fd, qb⟩ := k
  cases qb with
  | none =>
    unfold kStep
    dsimp only
    split
    · exact ⟨.inl rfl, fun _ => rfl⟩
    · split
      · exact ⟨.inr rfl, fun h => absurd rfl h⟩
      · exact ⟨.inl rfl, fun h => absurd rfl h⟩
  | some q =>
    have h2 : fd = none := h.exq (by simp)
    subst h2
    unfold kStep
    dsimp only
    split
    · exact ⟨.inl rfl, fun h => rfl⟩
    · exact ⟨.inl rfl, fun h => rfl⟩
theorem kRun_facts (y : List Nat) : KInv (kRun y) ∧ kSz (kRun y) ≤ 2 * y.length := by
  have : ∀ (y : List Nat) (k : KA), KInv k → KInv (y.foldl kStep k) ∧ kSz (y.foldl kStep k) ≤ kSz k + 2 * y.length := by
    intro y
    induction y with
    | nil => intro k hk; exact ⟨hk, by simp⟩
    | cons d l ih =>
      intro k hk
      have h1 := ih (kStep k d) (kInv_step hk d)
      have h2 := kSz_step k d
      refine ⟨h1.1, ?_⟩
      rw [List.foldl_cons, List.length_cons]
      omega
  have h := this y kInit ⟨.inl rfl, fun h => rfl⟩
  have e : kSz kInit = 0 := rfl
  rw [e] at h
  exact ⟨h.1, by have := h.2; unfold kRun; omega⟩
theorem kRun_snoc {y : List Nat} {i d : Nat} (h : y[i]? = some d) : kRun (y.take (i + 1)) = kStep (kRun (y.take i)) d := by
  unfold kRun
  rw [List.take_add_one, h]
  simp
noncomputable def fcV : Option (Nat × Nat) → List Nat
  | some (c, _) => [c]
  | none => []
noncomputable def fnV : Option (Nat × Nat) → Nat
  | some (_, n) => n
  | none => 0
noncomputable def qLed (q : Addr) (qv : List Value) (n : Nat) : Option (List Nat) → List (Addr × Obj)
  | some _ => [(q, W.listOf qv.toArray n)]
  | none => []
noncomputable def qVal (q : Addr) : Option (List Nat) → Value
  | some _ => .ref q
  | none => .none
noncomputable abbrev sgn (x : List Nat) : List Dat := x.map fun d => .str (S [d])
structure KSt where
  k : KA
  rv : List Value
  cv : List Value
  qv : List Value
  q : Addr
  tn : Tok
  tf : Tok
  n1 : Nat
  n2 : Nat
  n3 : Nat
  n4 : Nat
  n5 : Nat
  nx : List (Addr × Obj)
noncomputable abbrev kTop (ln lf lc lr : Addr) (c : KSt) : List (Addr × Obj) :=
  (ln, W.listOf #[.int (fnV c.k.fd) c.tn] c.n1) :: (lf, W.listOf #[.str (S (fcV c.k.fd)) c.tf] c.n2) :: (lc, W.listOf c.cv.toArray c.n3) :: (lr, W.listOf c.rv.toArray c.n4) :: qLed c.q c.qv c.n5 c.k.qb
noncomputable abbrev kLed (ln lf lc lr : Addr) (FIX : List (Addr × Obj)) (c : KSt) : List (Addr × Obj) := kTop ln lf lc lr c ++ (c.nx ++ FIX)
structure KFar (ln lf lc lr : Addr) (p : Addr) : Prop where
  n : (p : Nat) ≠ ln
  f : (p : Nat) ≠ lf
  c : (p : Nat) ≠ lc
  r : (p : Nat) ≠ lr
structure KOk (y : List Nat) (ln lf lc lr : Addr) (FIX : List (Addr × Obj)) (i : Nat) (c : KSt) : Prop where
  eq : c.k = kRun (y.take i)
  rd : DatAll c.nx c.rv (c.k.res.reverse.map Tk.tk)
  cd : DatAll [] c.cv (sgn c.k.cb)
  qd : ∀ q, c.k.qb = some q → DatAll [] c.qv (sgn q)
  ne : ∀ p ∈ c.nx ++ FIX, KFar ln lf lc lr p.1
  np : ∀ p ∈ c.nx, ∀ f ∈ FIX, (p.1 : Nat) ≠ f.1
  neq : c.k.qb ≠ none → (∀ p ∈ c.nx ++ FIX, (p.1 : Nat) ≠ c.q) ∧ KFar ln lf lc lr c.q
noncomputable abbrev kPs (c : KSt) : List (Str × Value) := [(PySem.Str.ofString "quotebuf", qVal c.q c.k.qb)]
noncomputable abbrev kStd : List Str := [PySem.Str.ofString "char"]
/-- which way a turn goes -/
structure KFarQ (ln lf lc lr q : Addr) (rest : List (Addr × Obj)) : Prop where
  ne : ∀ p ∈ rest, p.1 ≠ q
  n : (q : Nat) ≠ ln
  f : (q : Nat) ≠ lf
  c : (q : Nat) ≠ lc
  r : (q : Nat) ≠ lr
inductive KCase (ln lf lc lr q : Addr) (rest : List (Addr × Obj)) (d : Nat) (cv qv : List Value) (k : KA) (rv : List Value) : Prop where
  | q0 (res) : k = ⟨res, [], none, none⟩ → cv = [] → (S [d] == PySem.Str.ofString "'") = true → kStep k d = ⟨res, [], none, some []⟩ → KCase ln lf lc lr q rest d cv qv k rv
  | qF (res c n) : k = ⟨res, [], some (c, n), none⟩ → cv = [] → (S [d] == PySem.Str.ofString "'") = true → kStep k d = ⟨.fd c n :: res, [], none, some []⟩ → KCase ln lf lc lr q rest d cv qv k rv
  | qC (res cb cv0 x) : k = ⟨res, cb, none, none⟩ → cv = cv0 ++ [x] → cb ≠ [] → (S [d] == PySem.Str.ofString "'") = true → kStep k d = ⟨.ch (unq cb) :: res, [], none, some []⟩ → KCase ln lf lc lr q rest d cv qv k rv
  | pC (res cb cv0 x) : k = ⟨res, cb, none, none⟩ → cv = cv0 ++ [x] → cb ≠ [] → (S [d] == PySem.Str.ofString "'") = false → isPC d = true → (S [d] == S []) = false → kStep k d = ⟨.ch (unq cb) :: res, [], some (d, 1), none⟩ → KCase ln lf lc lr q rest d cv qv k rv
  | pI (res n) : k = ⟨res, [], some (d, n), none⟩ → cv = [] → (S [d] == PySem.Str.ofString "'") = false → isPC d = true → (S [d] == S [d]) = true → kStep k d = ⟨res, [], some (d, n + 1), none⟩ → KCase ln lf lc lr q rest d cv qv k rv
  | pO (res c n) : k = ⟨res, [], some (c, n), none⟩ → cv = [] → (S [d] == PySem.Str.ofString "'") = false → isPC d = true → (S [d] == S [c]) = false → kStep k d = ⟨.fd c n :: res, [], some (d, 1), none⟩ → KCase ln lf lc lr q rest d cv qv k rv
  | p0 (res) : k = ⟨res, [], none, none⟩ → cv = [] → (S [d] == PySem.Str.ofString "'") = false → isPC d = true → (S [d] == S []) = false → kStep k d = ⟨res, [], some (d, 1), none⟩ → KCase ln lf lc lr q rest d cv qv k rv
  | tF (res c n) : k = ⟨res, [], some (c, n), none⟩ → cv = [] → (S [d] == PySem.Str.ofString "'") = false → isPC d = false → kStep k d = ⟨.fd c n :: res, [d], none, none⟩ → KCase ln lf lc lr q rest d cv qv k rv
  | t0 (res cb) : k = ⟨res, cb, none, none⟩ → (S [d] == PySem.Str.ofString "'") = false → isPC d = false → kStep k d = ⟨res, cb ++ [d], none, none⟩ → KCase ln lf lc lr q rest d cv qv k rv
  | eQ0 (res cb) : k = ⟨res, cb, none, some []⟩ → qv = [] → KFarQ ln lf lc lr q rest → (S [d] == PySem.Str.ofString "'") = true → kStep k d = ⟨res, cb, none, none⟩ → KCase ln lf lc lr q rest d cv qv k rv
  | eQ (res cb qq) : k = ⟨res, cb, none, some qq⟩ → qv.length ≠ 0 → KFarQ ln lf lc lr q rest → (S [d] == PySem.Str.ofString "'") = true → kStep k d = ⟨res, cb ++ qq, none, none⟩ → KCase ln lf lc lr q rest d cv qv k rv
  | eT (res cb qq) : k = ⟨res, cb, none, some qq⟩ → KFarQ ln lf lc lr q rest → (S [d] == PySem.Str.ofString "'") = false → kStep k d = ⟨res, cb, none, some (qq ++ [d])⟩ → KCase ln lf lc lr q rest d cv qv k rv
theorem snoc_of {cv : List Value} {cb : List Nat} (h : DatAll [] cv (sgn cb)) (hc : cb ≠ []) : ∃ cv0 x, cv = cv0 ++ [x] := by
  have hl := h.length
  rw [List.length_map] at hl
  rcases List.eq_nil_or_concat cv with rfl | ⟨l, b, e⟩
  · cases cb with
    | nil => exact absurd rfl hc
    | cons => simp at hl
  · exact ⟨l, b, by rw [e, List.concat_eq_append]⟩
theorem nil_of {cv : List Value} (h : DatAll [] cv (sgn [])) : cv = [] := by
  have hl := h.length
  simpa using hl
theorem kcase {ln lf lc lr q : Addr} {rest : List (Addr × Obj)} {d : Nat} {cv qv rv : List Value} {k : KA} (hI : KInv k) (hc : DatAll [] cv (sgn k.cb)) (hqd : ∀ qq, k.qb = some qq → DatAll [] qv (sgn qq)) (hfar : k.qb ≠ none → KFarQ ln lf lc lr q rest) : KCase ln lf lc lr q rest d cv qv k rv := by
  obtain ⟨res, cb, fd, qb⟩ := k
  have h0 : (S [d] == S []) = false := by rw [S_beq]; simp
  cases qb with
  | some q =>
    have h2 : fd = none := hI.exq (by simp)
    subst h2
    by_cases h : d = 39
    · by_cases hq : q = []
      · subst hq
        exact .eQ0 res cb rfl (nil_of (hqd [] rfl)) (hfar (by simp)) (by rw [beq_q]; simp [h]) (by simp [kStep, h])
      · refine .eQ res cb q rfl ?_ (hfar (by simp)) (by rw [beq_q]; simp [h]) (by simp [kStep, h])
        have hl := (hqd q rfl).length
        rw [List.length_map] at hl
        rw [hl]
        exact fun e => hq (List.length_eq_zero_iff.mp e)
    · exact .eT res cb q rfl (hfar (by simp)) (by rw [beq_q]; simp [h]) (by simp [kStep, h])
  | none =>
    by_cases h : d = 39
    · have e : (S [d] == PySem.Str.ofString "'") = true := by rw [beq_q]; simp [h]
      cases fd with
      | some p =>
        have hcb : cb = [] := by rcases hI.ex with h1 | h1 <;> simp_all
        subst hcb
        exact .qF res p.1 p.2 rfl (nil_of hc) e (by simp [kStep, h, kC, kF])
      | none =>
        by_cases hcb : cb = []
        · subst hcb
          exact .q0 res rfl (nil_of hc) e (by simp [kStep, h, kC, kF])
        · obtain ⟨cv0, x, ecv⟩ := snoc_of hc hcb
          exact .qC res cb cv0 x rfl ecv hcb e (by simp [kStep, h, kC, kF, hcb])
    · have e : (S [d] == PySem.Str.ofString "'") = false := by rw [beq_q]; simp [h]
      cases hp : isPC d with
      | true =>
        cases fd with
        | some p =>
          have hcb : cb = [] := by rcases hI.ex with h1 | h1 <;> simp_all
          subst hcb
          obtain ⟨c, n⟩ := p
          by_cases hcd : c = d
          · subst hcd
            exact .pI res n rfl (nil_of hc) e hp (by simp) (by simp [kStep, h, kC, kInc, hp])
          · exact .pO res c n rfl (nil_of hc) e hp (by rw [S_beq]; simp; exact fun q => hcd q.symm) (by simp [kStep, h, kC, kInc, hp, hcd])
        | none =>
          by_cases hcb : cb = []
          · subst hcb
            exact .p0 res rfl (nil_of hc) e hp h0 (by simp [kStep, h, kC, kInc, hp])
          · obtain ⟨cv0, x, ecv⟩ := snoc_of hc hcb
            exact .pC res cb cv0 x rfl ecv hcb e hp h0 (by simp [kStep, h, kC, kInc, hp, hcb])
      | false =>
        cases fd with
        | some p =>
          have hcb : cb = [] := by rcases hI.ex with h1 | h1 <;> simp_all
          subst hcb
          exact .tF res p.1 p.2 rfl (nil_of hc) e hp (by simp [kStep, h, kF, hp])
        | none => exact .t0 res cb rfl e hp (by simp [kStep, h, kF, hp])
inductive KDone (cv : List Value) (k : KA) : Prop where
  | f (res c n qb) : k = ⟨res, [], some (c, n), qb⟩ → cv = [] → kEnd k = .fd c n :: res → KDone cv k
  | c (res cb cv0 x qb) : k = ⟨res, cb, none, qb⟩ → cv = cv0 ++ [x] → cb ≠ [] → kEnd k = .ch (unq cb) :: res → KDone cv k
  | n (res qb) : k = ⟨res, [], none, qb⟩ → cv = [] → kEnd k = res → KDone cv k
theorem kdone {cv : List Value} {k : KA} (hI : KInv k) (hc : DatAll [] cv (sgn k.cb)) : KDone cv k := by
  obtain ⟨res, cb, fd, qb⟩ := k
  cases fd with
  | some p =>
    have hcb : cb = [] := by rcases hI.ex with h1 | h1 <;> simp_all
    subst hcb
    exact .f res p.1 p.2 qb rfl (nil_of hc) (by simp [kEnd, kC, kF])
  | none =>
    by_cases hcb : cb = []
    · subst hcb
      exact .n res qb rfl (nil_of hc) (by simp [kEnd, kC, kF])
    · obtain ⟨cv0, x, ecv⟩ := snoc_of hc hcb
      exact .c res cb cv0 x qb rfl ecv hcb (by simp [kEnd, kC, kF, hcb])
section
variable {w : World} {p : Program} {loose : List Str} {mean : ExcName → Option Value} {mg mb : Str → Option Value}
  {dp un : Nat} {gd : Option (List Code)} {cn : Str} {cs : Scope} {a : Addr} {ccd : Value} {cl : List (Str × Addr)} {outer : List Env} {A₀ : Around} {base h₀ : Heap} {L : Addr} {m : Str → Option Value} {s : Shared} {Q E : Value → Shared → Prop}

end
end Mine

-- MTokR
namespace Mine
set_option maxRecDepth 100000
set_option maxHeartbeats 8000000
inductive NewT (r : List Tk) (rv : List Value) (new : List (Addr × Obj)) (r' : List Tk) (rv' : List Value) : Prop where
  | same : new = [] → r' = r → rv' = rv → NewT r rv new r' rv'
  | snoc (v : Addr) (t : Tk) : DatIn new (.ref v) t.tk → r' = t :: r → rv' = rv ++ [.ref v] → NewT r rv new r' rv'
theorem NewT.dat {r r' : List Tk} {rv rv' : List Value} {new nx : List (Addr × Obj)} (h : NewT r rv new r' rv') (hd : DatAll nx rv (r.reverse.map Tk.tk)) : DatAll (new ++ nx) rv' (r'.reverse.map Tk.tk) := by
  cases h with
  | same e1 e2 e3 => subst e1 e2 e3; exact hd
  | snoc v t h1 e2 e3 =>
    subst e2 e3
    simp only [List.reverse_cons, List.map_append, List.map_cons, List.map_nil]
    exact (hd.mono fun p hp => List.mem_append_right _ hp).append (.one (h1.mono fun p hp => List.mem_append_left _ hp))
noncomputable abbrev TokPost (y : List Nat) (ln lf lc lr : Addr) (FIX : List (Addr × Obj)) (g : Heap) (L : Addr) (s : Shared) (m₀ : Str → Option Value) (own : List (Addr × Obj)) (Q : Flow → Shared → Prop) (i : Nat) : Flow → Shared → Prop :=
  MPost (σ := KSt) g L s (kLed ln lf lc lr FIX) kPs (KOk y ln lf lc lr FIX) kStd m₀ own Q i
noncomputable abbrev SameQ (m' m₀ : Str → Option Value) : Prop := ∀ z, z ≠ PySem.Str.ofString "quotebuf" → z ≠ PySem.Str.ofString "char" → m' z = m₀ z
theorem sameQ_hr {m' m₀ : Str → Option Value} (h : SameQ m' m₀) {c : KSt} : ∀ z, (∀ p ∈ kPs c, z ≠ p.1) → kStd.contains z = false → m' z = m₀ z := by
  intro z h1 h2
  refine h z ?_ ?_
  · have := h1 _ (.head _)
    exact this
  · simpa [kStd] using h2
theorem tok_fin {y : List Nat} {ln lf lc lr : Addr} {FIX own new : List (Addr × Obj)} {i d : Nat} {c c' : KSt} {g : Heap} {L : Addr} {s : Shared} {m₀ m' : Str → Option Value} {h' : Heap} {tk : Nat} {news' : List (Addr × Obj)}
    (hy : y[i]? = some d) (hok : KOk y ln lf lc lr FIX i c) (hoff : OwnOff own ((kLed ln lf lc lr FIX c).map (·.1)))
    (ek : kStep c.k d = c'.k) (enx : c'.nx = new ++ c.nx) (hT : NewT c.k.res c.rv new c'.k.res c'.rv) (hc : DatAll [] c'.cv (sgn c'.k.cb)) (hq : ∀ q, c'.k.qb = some q → DatAll [] c'.qv (sgn q))
    (hnew : ∀ p ∈ new, KFar ln lf lc lr p.1 ∧ AllLt p.1 ((c.nx ++ FIX) ++ own)) (hneq : c'.k.qb ≠ none → (∀ p ∈ (new ++ ((c.nx ++ FIX) ++ own)), (p.1 : Nat) ≠ c'.q) ∧ KFar ln lf lc lr c'.q)
    (F : Fr g L h' m') (N : News g L h' news') (hN : ∀ p ∈ kTop ln lf lc lr c' ++ (new ++ ((c.nx ++ FIX) ++ own)), p ∈ news') (hm : m' (PySem.Str.ofString "quotebuf") = some (qVal c'.q c'.k.qb)) (hr : SameQ m' m₀) :
    MEnd (σ := KSt) g L s (kLed ln lf lc lr FIX) kPs (KOk y ln lf lc lr FIX) kStd m₀ own (i + 1) { s with heap := h', toks := tk } := by
  have hoffA : ∀ p ∈ own, (p.1 : Nat) ≠ ln ∧ (p.1 : Nat) ≠ lf ∧ (p.1 : Nat) ≠ lc ∧ (p.1 : Nat) ≠ lr := fun p hp =>
    ⟨hoff p hp _ (.head _), hoff p hp _ (.tail _ (.head _)), hoff p hp _ (.tail _ (.tail _ (.head _))), hoff p hp _ (.tail _ (.tail _ (.tail _ (.head _))))⟩
  have hoffB : ∀ p ∈ own, ∀ x ∈ c.nx ++ FIX, (p.1 : Nat) ≠ x.1 := fun p hp x hx => hoff p hp _ (List.mem_map.mpr ⟨x, List.mem_append_right _ hx, rfl⟩)
  refine mend (σ := KSt) c' F N (fun p hp => hN p ?_) (fun p hp => hN p (List.mem_append_right _ (List.mem_append_right _ (List.mem_append_right _ hp)))) ?_ ⟨?_, ?_, hc, hq, ?_, ?_, ?_⟩ ?_ (sameQ_hr hr)
  · rcases List.mem_append.mp hp with hp | hp
    · exact List.mem_append_left _ hp
    · refine List.mem_append_right _ ?_
      rw [enx, List.append_assoc] at hp
      rcases List.mem_append.mp hp with hp | hp
      · exact List.mem_append_left _ hp
      · exact List.mem_append_right _ (List.mem_append_left _ hp)
  · intro p hp b hb
    obtain ⟨x, hx, rfl⟩ := List.mem_map.mp hb
    rcases List.mem_append.mp hx with hx | hx
    · simp only [kTop, List.mem_cons] at hx
      rcases hx with rfl | rfl | rfl | rfl | hx
      · exact (hoffA p hp).1
      · exact (hoffA p hp).2.1
      · exact (hoffA p hp).2.2.1
      · exact (hoffA p hp).2.2.2
      · cases hqb : c'.k.qb with
        | none => rw [hqb] at hx; cases hx
        | some q =>
          rw [hqb] at hx
          rw [List.mem_singleton.mp hx]
          exact (hneq (by rw [hqb]; simp)).1 p (List.mem_append_right _ (List.mem_append_right _ hp))
    · rw [enx, List.append_assoc] at hx
      rcases List.mem_append.mp hx with hx | hx
      · exact Nat.ne_of_lt (allLt_iff.mp (hnew x hx).2 p (List.mem_append_right _ hp))
      · exact hoffB p hp x hx
  · rw [← ek, kRun_snoc hy, hok.eq]
  · rw [enx]; exact hT.dat hok.rd
  · intro p hp
    rw [enx, List.append_assoc] at hp
    rcases List.mem_append.mp hp with hp | hp
    · exact (hnew p hp).1
    · exact hok.ne p hp
  · intro p hp f hf
    rw [enx] at hp
    rcases List.mem_append.mp hp with hp | hp
    · exact (Nat.ne_of_lt (allLt_iff.mp (hnew p hp).2 f (List.mem_append_left _ (List.mem_append_right _ hf)))).symm
    · exact hok.np p hp f hf
  · intro h
    refine ⟨fun p hp => (hneq h).1 p ?_, (hneq h).2⟩
    rw [enx, List.append_assoc] at hp
    rcases List.mem_append.mp hp with hp | hp
    · exact List.mem_append_left _ hp
    · exact List.mem_append_right _ (List.mem_append_left _ hp)
  · intro p hp
    simp only [kPs, List.mem_cons, List.not_mem_nil, or_false] at hp
    subst hp
    exact hm
/-- what a turn is given -/
structure KGiven (y : List Nat) (ln lf lc lr : Addr) (FIX rest : List (Addr × Obj)) (d : Nat) (k : KA) (rv cv qv : List Value) (q : Addr) : Prop where
  case : KCase ln lf lc lr q rest d cv qv k rv
  sz : kSz k ≤ 2 * y.length
  rl : rv.length = k.res.length
  cd : DatAll [] cv (sgn k.cb)
  qd : ∀ qq, k.qb = some qq → DatAll [] qv (sgn qq)
  fix : ∀ p ∈ FIX, p ∈ rest
  kn : ∀ p ∈ rest, p.1 ≠ ln
  kf : ∀ p ∈ rest, p.1 ≠ lf
  kc : ∀ p ∈ rest, p.1 ≠ lc
  kr : ∀ p ∈ rest, p.1 ≠ lr
theorem tok_loop {prog : Program} {w : World} {A : Around} {E : Value → Shared → Prop} {Q : Flow → Shared → Prop} {s : Shared} {env : Env} {g : Heap} {body : List Stmt} {tn' : Str} {tp : Pos} {m₀ : Str → Option Value} {ln lf lc lr : Addr} {tn tf tx : Tok} {n1 n2 n3 n4 : Nat} {FIX : List (Addr × Obj)} (y : List Nat)
    (hh : A.handled = none) (F : Fr g env.locals s.heap m₀) (N : News g env.locals s.heap ((ln, W.listOf #[.int 0 tn] n1) :: (lf, W.listOf #[.str (PySem.Str.ofString "") tf] n2) :: (lc, W.listOf #[] n3) :: (lr, W.listOf #[] n4) :: FIX))
    (kn : ∀ p ∈ FIX, p.1 ≠ ln) (kf : ∀ p ∈ FIX, p.1 ≠ lf) (kc : ∀ p ∈ FIX, p.1 ≠ lc) (kr : ∀ p ∈ FIX, p.1 ≠ lr) (h1 : m₀ (PySem.Str.ofString "quotebuf") = some .none)
    (turn : ∀ (d : Nat) (td : Tok) (k : KA) (rv cv qv : List Value) (q : Addr) (tn tf : Tok) (n1 n2 n3 n4 n5 : Nat) (rest : List (Addr × Obj)) (u : Str → Option Value) (h : Heap) (tk : Nat) (T : Flow → Shared → Prop),
      KGiven y ln lf lc lr FIX rest d k rv cv qv q →
      (∀ k' rv' cv' tn' tf' n1' n2' n3' n4' new m' h' tk' news', kStep k d = k' → k'.qb = none → NewT k.res rv new k'.res rv' → DatAll [] cv' (sgn k'.cb) → (∀ p ∈ new, KFar ln lf lc lr p.1 ∧ AllLt p.1 rest) → Fr g env.locals h' m' → News g env.locals h' news' →
        (∀ p ∈ (ln, W.listOf #[.int (fnV k'.fd) tn'] n1') :: (lf, W.listOf #[.str (S (fcV k'.fd)) tf'] n2') :: (lc, W.listOf cv'.toArray n3') :: (lr, W.listOf rv'.toArray n4') :: (new ++ rest), p ∈ news') → m' (PySem.Str.ofString "quotebuf") = some .none → SameQ m' m₀ → T .next { s with heap := h', toks := tk' }) →
      (∀ k' rv' cv' tn' tf' n1' n2' n3' n4' n5' q' new m' h' tk' news', kStep k d = k' → k'.qb = some [] → NewT k.res rv new k'.res rv' → DatAll [] cv' (sgn k'.cb) → (∀ p ∈ new, KFar ln lf lc lr p.1 ∧ AllLt p.1 rest) → KFar ln lf lc lr q' → AllLt q' (new ++ rest) → Fr g env.locals h' m' → News g env.locals h' news' →
        (∀ p ∈ (ln, W.listOf #[.int (fnV k'.fd) tn'] n1') :: (lf, W.listOf #[.str (S (fcV k'.fd)) tf'] n2') :: (lc, W.listOf cv'.toArray n3') :: (lr, W.listOf rv'.toArray n4') :: (q', W.listOf #[] n5') :: (new ++ rest), p ∈ news') → m' (PySem.Str.ofString "quotebuf") = some (.ref q') → SameQ m' m₀ → T .next { s with heap := h', toks := tk' }) →
      (∀ k' qq' qv' tn' tf' n1' n2' n3' n4' n5' m' h' tk' news', kStep k d = k' → k'.qb = some qq' → k'.res = k.res → k'.cb = k.cb → k.qb ≠ none → DatAll [] qv' (sgn qq') → Fr g env.locals h' m' → News g env.locals h' news' →
        (∀ p ∈ (ln, W.listOf #[.int (fnV k'.fd) tn'] n1') :: (lf, W.listOf #[.str (S (fcV k'.fd)) tf'] n2') :: (lc, W.listOf cv.toArray n3') :: (lr, W.listOf rv.toArray n4') :: (q, W.listOf qv'.toArray n5') :: rest, p ∈ news') → m' (PySem.Str.ofString "quotebuf") = some (.ref q) → SameQ m' m₀ → T .next { s with heap := h', toks := tk' }) →
      Fr g env.locals h (kstB (fun z => if kStd.contains z then u z else m₀ z) [(PySem.Str.ofString "quotebuf", qVal q k.qb)]) →
      News g env.locals h ((ln, W.listOf #[.int (fnV k.fd) tn] n1) :: (lf, W.listOf #[.str (S (fcV k.fd)) tf] n2) :: (lc, W.listOf cv.toArray n3) :: (lr, W.listOf rv.toArray n4) :: (qLed q qv n5 k.qb ++ rest)) →
      wpAny (model prog w) A (assign (.Name tn' tp) env (.str (S [d]) td)) (fun _ s₃ => wpAny (model prog w) A (execs body env) T E s₃) E { s with heap := h, toks := tk })
    (done : ∀ (k : KA) (rv cv qv : List Value) (q : Addr) (tn tf : Tok) (n1 n2 n3 n4 : Nat) (nx rest : List (Addr × Obj)) (u : Str → Option Value) h tk, rest = nx ++ FIX → k = kRun y → KDone cv k → kSz k ≤ 2 * y.length → rv.length = k.res.length → DatAll nx rv (k.res.reverse.map Tk.tk) → DatAll [] cv (sgn k.cb) → (∀ p ∈ nx, ∀ f ∈ FIX, (p.1 : Nat) ≠ f.1) → (∀ p ∈ rest, p.1 ≠ ln) → (∀ p ∈ rest, p.1 ≠ lf) → (∀ p ∈ rest, p.1 ≠ lc) → (∀ p ∈ rest, p.1 ≠ lr) →
      Fr g env.locals h (kstB (fun z => if kStd.contains z then u z else m₀ z) [(PySem.Str.ofString "quotebuf", qVal q k.qb)]) →
      News g env.locals h ((ln, W.listOf #[.int (fnV k.fd) tn] n1) :: (lf, W.listOf #[.str (S (fcV k.fd)) tf] n2) :: (lc, W.listOf cv.toArray n3) :: (lr, W.listOf rv.toArray n4) :: rest) → Q .next { s with heap := h, toks := tk }) :
    wpAny (model prog w) A (pyIter (.str (S y) tx)) (fun it s₂ => TurnsAt prog w A g env (.Name tn' tp) body Q E it s₂) E s := by
  have hfar0 : ∀ p ∈ FIX, KFar ln lf lc lr p.1 := fun p hp => ⟨kn p hp, kf p hp, kc p hp, kr p hp⟩
  refine mstr (σ := KSt) (kLed ln lf lc lr FIX) kPs (KOk y ln lf lc lr FIX) kStd ⟨kInit, [], [], [], 0, tn, tf, n1, n2, n3, n4, 0, []⟩ hh F N ⟨rfl, .nil, .nil, fun q h => (nomatch h), hfar0, fun p hp => (nomatch hp), fun h => absurd rfl h⟩ ?_ ?_ ?_
  · intro p hp
    simp only [kPs, List.mem_cons, List.not_mem_nil, or_false] at hp
    subst hp
    exact h1
  · rintro i d td ⟨k, rv, cv, qv, q, tn, tf, n1, n2, n3, n4, n5, nx⟩ u h tk own hd hok hoff F' N'
    have hkf := kRun_facts (y.take i)
    have hlen := hok.rd.length
    rw [List.length_map, List.length_reverse] at hlen
    have ek : k = kRun (y.take i) := hok.eq
    have hn : ∀ p ∈ (nx ++ FIX) ++ own, KFar ln lf lc lr p.1 := by
      intro p hp
      rcases List.mem_append.mp hp with hp | hp
      · exact hok.ne p hp
      · exact ⟨hoff p hp _ (.head _), hoff p hp _ (.tail _ (.head _)), hoff p hp _ (.tail _ (.tail _ (.head _))), hoff p hp _ (.tail _ (.tail _ (.tail _ (.head _))))⟩
    have hq9 : k.qb ≠ none → (∀ p ∈ (nx ++ FIX) ++ own, p.1 ≠ q) ∧ KFar ln lf lc lr q := by
      intro h
      refine ⟨fun p hp => ?_, (hok.neq h).2⟩
      rcases List.mem_append.mp hp with hp | hp
      · exact (hok.neq h).1 p hp
      · refine hoff p hp _ ?_
        cases hqb : k.qb with
        | none => exact absurd hqb h
        | some qq => simp [kLed, kTop, qLed, hqb]
    have hgiv : KGiven y ln lf lc lr FIX ((nx ++ FIX) ++ own) d k rv cv qv q := by
      refine ⟨kcase (by rw [ek]; exact hkf.1) hok.cd hok.qd (fun h => ⟨(hq9 h).1, (hq9 h).2.n, (hq9 h).2.f, (hq9 h).2.c, (hq9 h).2.r⟩), ?_, hlen, hok.cd, hok.qd, fun p hp => List.mem_append_left _ (List.mem_append_right _ hp), fun p hp => (hn p hp).n, fun p hp => (hn p hp).f, fun p hp => (hn p hp).c, fun p hp => (hn p hp).r⟩
      rw [ek]
      have h3 := hkf.2
      have h4 : (y.take i).length ≤ y.length := by simp; omega
      omega
    refine turn d td k rv cv qv q tn tf n1 n2 n3 n4 n5 ((nx ++ FIX) ++ own) u h tk (TokPost y ln lf lc lr FIX g env.locals { s with heap := h, toks := tk } m₀ own Q (i + 1)) hgiv ?_ ?_ ?_ F' ?_
    · intro k' rv' cv' tn' tf' n1' n2' n3' n4' new m' h' tk' news' ek' eq hT hc hnew F2 N2 hN hm hr
      refine tok_fin (c := ⟨k, rv, cv, qv, q, tn, tf, n1, n2, n3, n4, n5, nx⟩) (c' := ⟨k', rv', cv', qv, q, tn', tf', n1', n2', n3', n4', n5, new ++ nx⟩) (new := new) hd hok hoff ek' rfl hT hc (fun q9 h9 => by rw [eq] at h9; cases h9) hnew (fun h9 => absurd eq h9) F2 N2 (fun p hp => hN p ?_) (by rw [hm]; simp only [eq, qVal]) hr
      simpa only [kTop, eq, qLed, List.cons_append, List.nil_append] using hp
    · intro k' rv' cv' tn' tf' n1' n2' n3' n4' n5' q' new m' h' tk' news' ek' eq hT hc hnew hfq hlq F2 N2 hN hm hr
      refine tok_fin (c := ⟨k, rv, cv, qv, q, tn, tf, n1, n2, n3, n4, n5, nx⟩) (c' := ⟨k', rv', cv', [], q', tn', tf', n1', n2', n3', n4', n5', new ++ nx⟩) (new := new) hd hok hoff ek' rfl hT hc (fun q9 h9 => by rw [eq] at h9; cases h9; exact .nil) hnew (fun _ => ⟨fun p hp => Nat.ne_of_lt (allLt_iff.mp hlq p hp), hfq⟩) F2 N2 (fun p hp => hN p ?_) (by rw [hm]; simp only [eq, qVal]) hr
      simpa only [kTop, eq, qLed, List.cons_append, List.nil_append] using hp
    · intro k' qq' qv' tn' tf' n1' n2' n3' n4' n5' m' h' tk' news' ek' eq er ec hqn hq F2 N2 hN hm hr
      refine tok_fin (c := ⟨k, rv, cv, qv, q, tn, tf, n1, n2, n3, n4, n5, nx⟩) (c' := ⟨k', rv, cv, qv', q, tn', tf', n1', n2', n3', n4', n5', nx⟩) (new := []) hd hok hoff ek' rfl (.same rfl er rfl) (by rw [ec]; exact hok.cd) (fun q9 h9 => by rw [eq] at h9; cases h9; exact hq) (fun p hp => (nomatch hp)) (fun _ => hq9 hqn) F2 N2 (fun p hp => hN p ?_) (by rw [hm]; simp only [eq, qVal]) hr
      simpa only [kTop, eq, qLed, List.cons_append, List.nil_append] using hp
    · refine fun p hp => N' p ?_
      simpa only [kLed, kTop, List.cons_append, List.append_assoc] using hp
  · rintro ⟨k, rv, cv, qv, q, tn, tf, n1, n2, n3, n4, n5, nx⟩ u h tk hok F' N'
    have ek : k = kRun y := by have := hok.eq; rw [List.take_length] at this; exact this
    have hkf := kRun_facts y
    have hlen := hok.rd.length
    rw [List.length_map, List.length_reverse] at hlen
    refine done k rv cv qv q tn tf n1 n2 n3 n4 nx _ u h tk rfl ek (kdone (by rw [ek]; exact hkf.1) hok.cd) (by rw [ek]; exact hkf.2) hlen hok.rd hok.cd hok.np (fun p hp => (hok.ne p hp).n) (fun p hp => (hok.ne p hp).f) (fun p hp => (hok.ne p hp).c) (fun p hp => (hok.ne p hp).r) F' (fun p hp => N' p ?_)
    simp only [List.mem_cons] at hp
    rcases hp with rfl | rfl | rfl | rfl | hp
    · exact .head _
    · exact .tail _ (.head _)
    · exact .tail _ (.tail _ (.head _))
    · exact .tail _ (.tail _ (.tail _ (.head _)))
    · exact List.mem_append_right _ hp
theorem rep_qq {x : List Nat} : Txt.replace (S x) (PySem.Str.ofString "''") (PySem.Str.ofString "\x00") = S (repL [39, 39] [0] x) := replace_S x [39, 39] [0] (by simp)
theorem rep_zero {x : List Nat} : Txt.replace (S x) (PySem.Str.ofString "\x00") (PySem.Str.ofString "'") = S (unq x) := by
  rw [show PySem.Str.ofString "\x00" = S [0] from rfl, show PySem.Str.ofString "'" = S [39] from rfl, replace_S x [0] [39] (by simp), repL_one]
  rfl
theorem tok_swap {h₀ h : Heap} {L : Addr} {a b c d e f g i : Addr × Obj} {R : List (Addr × Obj)} (N : News h₀ L h (a :: b :: c :: d :: e :: f :: g :: i :: R)) : News h₀ L h (e :: f :: g :: i :: a :: b :: c :: d :: R) := fun p hp => N p (by
  simp only [List.mem_cons] at hp ⊢
  rcases hp with h | h | h | h | h | h | h | h | h
  · exact .inr (.inr (.inr (.inr (.inl h))))
  · exact .inr (.inr (.inr (.inr (.inr (.inl h)))))
  · exact .inr (.inr (.inr (.inr (.inr (.inr (.inl h))))))
  · exact .inr (.inr (.inr (.inr (.inr (.inr (.inr (.inl h)))))))
  · exact .inl h
  · exact .inr (.inl h)
  · exact .inr (.inr (.inl h))
  · exact .inr (.inr (.inr (.inl h)))
  · exact .inr (.inr (.inr (.inr (.inr (.inr (.inr (.inr h))))))))
section
variable {w : World} {p : Program} {loose : List Str} {mean : ExcName → Option Value} {mg mb : Str → Option Value}
  {dp un : Nat} {gd : Option (List Code)} {cn : Str} {cs : Scope} {a : Addr} {ccd : Value} {cl : List (Str × Addr)} {outer : List Env} {A₀ : Around} {base h₀ : Heap} {L : Addr} {m : Str → Option Value} {s : Shared} {Q E : Value → Shared → Prop}

end
end Mine

-- MTokS
namespace Mine
set_option maxRecDepth 100000
set_option maxHeartbeats 8000000
section
variable {prog : Program} {w : World} {A A₀ : Around} {s : Shared} {K : Frag} {L : Addr} {h₀ base : Heap} {m mg mb : Str → Option Value} {news : List (Addr × Obj)} {p : Program} {loose : List Str} {mean : ExcName → Option Value}
theorem code_defC1 {env : Env} {outer : List Env} {R : Result → Shared → Prop} {name qual : Str} {params : Arguments} {body : List Stmt} {scope : Scope} {dV kV doc pm cdv ct oc : Value} {an od : Option Addr} {osl : Array (Option Value)} {f : Addr} {args : Args} {binds : List (Str × Value)} (n : Str) (v : Value)
    (B : Below A₀ base outer h₀) (F : Fr h₀ L s.heap m) (X₀ : K.In h₀) (N : News h₀ L s.heap news) (T : Top p loose mean mg mb h₀) (hA : A.frames = some (env :: outer)) (hf : env.frame = some L) (hke : env.scope.kind = .function)
    (ho : K.lookup f = some ⟨oc, od, .func (fnOf name qual params body scope dV kV doc pm an cdv ct), osl⟩) (hcd : codeIn K cdv qual = true) (hroom : A.depth < recursionLimit)
    (hbind : BindsTo s (fnOf name qual params body scope dV kV doc pm an cdv ct) args binds) (hbe : binds = [(n, v)]) (hloc : ∀ L', (envOfC qual scope L' f cdv).kindOf n = some .local) (hkind : scope.names.lookup n = some .local)
    (hnd : ((cellsFrom 0 scope.names []).map (·.1)).Nodup)
    (h : ∀ g L' h₁ tk cells, Fr h₀ L g m → Fr g L' h₁ (fun y => if y = n then some v else none) → News g L' h₁ (cells ++ news) →
      CellsAre (fun _ => none) (cellsFrom (L' + 1) scope.names []) cells → Below A base (env :: outer) g → K.In g → Top p loose mean mg mb g → (∀ p ∈ news, p.1 < L') →
      wpAny (model prog w) (A.deeper (envOfC qual scope L' f cdv)) (execs body (envOfC qual scope L' f cdv))
        (fun fl s' => LeaveK h₀ L m g R (match fl with | .ret v => v | _ => .none) s')
        (fun e s' => wpAny (model prog w) (A.deeper (envOfC qual scope L' f cdv)) (leaving (envOfC qual scope L' f cdv) e) (fun _ s'' => R (.error e) s'') (fun e' s'' => R (.error e') s'') s')
        { s with heap := h₁, toks := tk })
    (hco : scope.isCoroutine = false) (hgen : scope.isGenerator = false) (hk : scope.kind = .function) : codeAny (model prog w) A (.call (.ref f) args) R s := by
  subst hbe
  refine code_defC B F X₀ N T hA hf hke ho hcd hroom hbind ?_ hnd (fun g L' h₁ tk cells FG F' N' Y B' X' T' l => h g L' h₁ tk cells FG ?_ N' ?_ B' X' T' l) hco hgen hk
  · simp only [List.all_cons, List.all_nil, Bool.and_true, hkind]; rfl
  · simp only [bindL, hloc] at F'; exact F'
  · simp only [bindC, hloc] at Y; exact Y
end
/-- what append_field does -/
noncomputable abbrev AFld (prog : Program) (w : World) (A : Around) (g : Heap) (L f2 ln lf lc lr : Addr) (FIX : List (Addr × Obj)) : Prop :=
  ∀ {m : Str → Option Value} {s : Shared} {Q E : Value → Shared → Prop} (c n : Nat) (rv : List Value) (Lc : Obj) (tn tf n1 n2 n4 : Nat) (rest : List (Addr × Obj)),
    (∀ p ∈ FIX, p ∈ rest) → (∀ p ∈ rest, p.1 ≠ ln) → (∀ p ∈ rest, p.1 ≠ lf) → (∀ p ∈ rest, p.1 ≠ lr) → rv.length ≤ 2000 → n ≤ 2000 →
    Fr g L s.heap m → News g L s.heap ((ln, W.listOf #[.int (n : Int) tn] n1) :: (lf, W.listOf #[.str (S [c]) tf] n2) :: (lc, Lc) :: (lr, W.listOf rv.toArray n4) :: rest) →
    (∀ (u v : Addr) (t0 t1 t2 tn' tf' k1 k2 n1' n2' n4' : Nat) h' tk', Fr g L h' m → News g L h' ((v, ({ cls := .type "tuple", data := .seq #[.str (PySem.Str.ofString "field") t0, .ref u] k1 } : Obj)) :: (u, ({ cls := .type "tuple", data := .seq #[.str (S [c]) t1, .int n t2] k2 } : Obj)) :: (ln, W.listOf #[.int 0 tn'] n1') :: (lf, W.listOf #[.str (S []) tf'] n2') :: (lc, Lc) :: (lr, W.listOf (rv ++ [Value.ref v]).toArray n4') :: rest) →
      (∀ p ∈ [(v, ({ cls := .type "tuple", data := .seq #[.str (PySem.Str.ofString "field") t0, .ref u] k1 } : Obj)), (u, ({ cls := .type "tuple", data := .seq #[.str (S [c]) t1, .int n t2] k2 } : Obj))], KFar ln lf lc lr p.1 ∧ AllLt p.1 rest) → u < v → (∀ p ∈ ((ln, W.listOf #[.int (n : Int) tn] n1) :: (lf, W.listOf #[.str (S [c]) tf] n2) :: (lc, Lc) :: (lr, W.listOf rv.toArray n4) :: rest), p.1 < u) → Q .none { s with heap := h', toks := tk' }) →
    wpAny (model prog w) A (call (.ref f2) []) Q E s
/-- what append_chars does -/
noncomputable abbrev AChr (prog : Program) (w : World) (A : Around) (g : Heap) (L f1 ln lf lc lr : Addr) (FIX : List (Addr × Obj)) : Prop :=
  ∀ {m : Str → Option Value} {s : Shared} {Q E : Value → Shared → Prop} (cb : List Nat) (cv rv : List Value) (Ln Lf : Obj) (n3 n4 : Nat) (rest : List (Addr × Obj)),
    (∀ p ∈ FIX, p ∈ rest) → (∀ p ∈ rest, p.1 ≠ lc) → (∀ p ∈ rest, p.1 ≠ lr) → rv.length ≤ 2000 → cb.length ≤ 2000 → DatAll [] cv (sgn cb) →
    Fr g L s.heap m → News g L s.heap ((ln, Ln) :: (lf, Lf) :: (lc, W.listOf cv.toArray n3) :: (lr, W.listOf rv.toArray n4) :: rest) →
    (∀ (v : Addr) (t0 t1 k1 n3' n4' : Nat) h' tk', Fr g L h' m → News g L h' ((v, ({ cls := .type "tuple", data := .seq #[.str (PySem.Str.ofString "chars") t0, .str (S (unq cb)) t1] k1 } : Obj)) :: (ln, Ln) :: (lf, Lf) :: (lc, W.listOf #[] n3') :: (lr, W.listOf (rv ++ [Value.ref v]).toArray n4') :: rest) →
      (∀ p ∈ [(v, ({ cls := .type "tuple", data := .seq #[.str (PySem.Str.ofString "chars") t0, .str (S (unq cb)) t1] k1 } : Obj))], KFar ln lf lc lr p.1 ∧ AllLt p.1 rest) → (∀ p ∈ ((ln, Ln) :: (lf, Lf) :: (lc, W.listOf cv.toArray n3) :: (lr, W.listOf rv.toArray n4) :: rest), p.1 < v) → Q .none { s with heap := h', toks := tk' }) →
    wpAny (model prog w) A (call (.ref f1) []) Q E s
theorem newT_fd {r : List Tk} {rv : List Value} {u v : Addr} {t0 t1 t2 k1 k2 : Nat} {c n : Nat} :
    NewT r rv [(v, ({ cls := .type "tuple", data := .seq #[.str (PySem.Str.ofString "field") t0, .ref u] k1 } : Obj)), (u, ({ cls := .type "tuple", data := .seq #[.str (S [c]) t1, .int n t2] k2 } : Obj))] (.fd c n :: r) (rv ++ [.ref v]) :=
  .snoc v (.fd c n) (.tuple (vs := [_, _]) (.head _) (.cons (.str _ _) (.cons (.tuple (vs := [_, _]) (.tail _ (.head _)) (.cons (.str _ _) (.cons (.int _ _) .nil))) .nil))) rfl rfl
theorem newT_ch {r : List Tk} {rv : List Value} {v : Addr} {t0 t1 k1 : Nat} {x : List Nat} :
    NewT r rv [(v, ({ cls := .type "tuple", data := .seq #[.str (PySem.Str.ofString "chars") t0, .str (S x) t1] k1 } : Obj))] (.ch x :: r) (rv ++ [.ref v]) :=
  .snoc v (.ch x) (.tuple (vs := [_, _]) (.head _) (.cons (.str _ _) (.cons (.str _ _) .nil))) rfl rfl
theorem far_of {ln lf lc lr u : Addr} {a b c d : Obj} {rest : List (Addr × Obj)} (h : ∀ p ∈ ((ln, a) :: (lf, b) :: (lc, c) :: (lr, d) :: rest), p.1 < u) : KFar ln lf lc lr u ∧ AllLt u rest :=
  ⟨⟨(Nat.ne_of_lt (h _ (.head _))).symm, (Nat.ne_of_lt (h _ (.tail _ (.head _)))).symm, (Nat.ne_of_lt (h _ (.tail _ (.tail _ (.head _))))).symm, (Nat.ne_of_lt (h _ (.tail _ (.tail _ (.tail _ (.head _)))))).symm⟩,
    allLt_iff.mpr fun p hp => h p (.tail _ (.tail _ (.tail _ (.tail _ hp))))⟩
theorem far_up {ln lf lc lr u v : Addr} {a b c d : Obj} {rest : List (Addr × Obj)} (h : ∀ p ∈ ((ln, a) :: (lf, b) :: (lc, c) :: (lr, d) :: rest), p.1 < u) (hv : u < v) : KFar ln lf lc lr v ∧ AllLt v rest :=
  far_of (a := a) (b := b) (c := c) (d := d) fun p hp => Nat.lt_trans (h p hp) hv
theorem fix_right {rest nx FIX : List (Addr × Obj)} (e : rest = nx ++ FIX) : ∀ p ∈ FIX, p ∈ rest := fun p hp => by rw [e]; exact List.mem_append_right _ hp
theorem len_res {k : KA} {y : List Nat} {rv : List Value} (h : kSz k ≤ 2 * y.length) (hl : rv.length = k.res.length) (hy : y.length ≤ 800) : rv.length ≤ 1600 ∧ k.cb.length ≤ 1600 ∧ fdSz k.fd ≤ 1600 ∧ qSz k.qb ≤ 1600 := by
  have h1 := len_le_szs k.res
  unfold kSz at h
  refine ⟨by omega, ?_, by omega, by omega⟩
  by_cases hc : k.cb = []
  · rw [hc]; simp
  · rw [if_neg hc] at h; omega
theorem repL_length (x : List Nat) : (repL [39, 39] [0] x).length ≤ x.length := by
  have : ∀ n (x : List Nat), x.length ≤ n → (repL [39, 39] [0] x).length ≤ x.length := by
    intro n
    induction n with
    | zero => intro x hx; cases x with
      | nil => rw [repL_nil]; exact Nat.le_refl _
      | cons => simp at hx
    | succ n ih =>
      intro x hx
      cases x with
      | nil => rw [repL_nil]; exact Nat.le_refl _
      | cons c l =>
        rw [List.length_cons] at hx
        rw [repL_cons]
        split
        · rename_i hp
          have h2 := ih (l.drop ([39, 39].length - 1)) (by simp; omega)
          rw [List.length_append, List.length_cons]
          simp only [List.length_cons, List.length_nil, List.length_drop] at h2 ⊢
          have h3 := ((pre_iff _ _).mp hp)
          have h4 := congrArg List.length h3
          simp only [List.length_take, List.length_cons, List.length_nil] at h4
          omega
        · have := ih l (by omega)
          simp only [List.length_cons]; omega
  exact this _ _ (Nat.le_refl _)
theorem two_ways {P a b : Prop} (ha : a) (hb : b) (h : a → b → P) : P := h ha hb
theorem tok_two {prog : Program} {w : World} {A : Around} {g : Heap} {s : Shared} {L f2 c2 f1 c1 ln lf lc lr : Addr} {F2 C2 F1 C1 On Of Oc Or : Obj} {rest : List (Addr × Obj)} {α : Type} {a : Sem α} {Q : α → Shared → Prop} {E : Value → Shared → Prop}
    (_N : News g L s.heap ((f2, F2) :: (c2, C2) :: (f1, F1) :: (c1, C1) :: (ln, On) :: (lf, Of) :: (lc, Oc) :: (lr, Or) :: rest))
    (ha : AFld prog w A g L f2 ln lf lc lr ((f2, F2) :: (c2, C2) :: (f1, F1) :: (c1, C1) :: rest)) (hb : AChr prog w A g L f1 ln lf lc lr ((f2, F2) :: (c2, C2) :: (f1, F1) :: (c1, C1) :: rest))
    (h : AFld prog w A g L f2 ln lf lc lr ((f2, F2) :: (c2, C2) :: (f1, F1) :: (c1, C1) :: rest) → AChr prog w A g L f1 ln lf lc lr ((f2, F2) :: (c2, C2) :: (f1, F1) :: (c1, C1) :: rest) → wpAny (model prog w) A a Q E s) : wpAny (model prog w) A a Q E s := h ha hb
theorem all4 {ln lf lc lr D : Addr} {a b c d : Obj} {rest : List (Addr × Obj)} (l1 : ln < D ∧ lf < D ∧ lc < D ∧ lr < D ∧ AllLt D rest) : ∀ p ∈ ((ln, a) :: (lf, b) :: (lc, c) :: (lr, d) :: rest), p.1 < D :=
  List.forall_mem_cons.mpr ⟨l1.1, List.forall_mem_cons.mpr ⟨l1.2.1, List.forall_mem_cons.mpr ⟨l1.2.2.1, List.forall_mem_cons.mpr ⟨l1.2.2.2.1, allLt_iff.mp l1.2.2.2.2⟩⟩⟩⟩
theorem far4 {ln lf lc lr D : Addr} {rest : List (Addr × Obj)} (l1 : ln < D ∧ lf < D ∧ lc < D ∧ lr < D ∧ AllLt D rest) : KFar ln lf lc lr D ∧ AllLt D rest :=
  ⟨⟨(Nat.ne_of_lt l1.1).symm, (Nat.ne_of_lt l1.2.1).symm, (Nat.ne_of_lt l1.2.2.1).symm, (Nat.ne_of_lt l1.2.2.2.1).symm⟩, l1.2.2.2.2⟩
theorem sgn_app {cv qv : List Value} {cb qq : List Nat} (h : DatAll [] cv (sgn cb)) (h2 : DatAll [] qv (sgn qq)) : DatAll [] (cv ++ qv) (sgn (cb ++ qq)) := by
  unfold sgn
  rw [List.map_append]
  exact h.append h2
theorem sgn_snoc {cv : List Value} {cb : List Nat} {d td : Nat} (h : DatAll [] cv (sgn cb)) : DatAll [] (cv ++ [.str (S [d]) td]) (sgn (cb ++ [d])) := sgn_app h (.cons (.str _ _) .nil)
theorem tok_ret {h₀ h : Heap} {L : Addr} {lr f2 c2 f1 c1 nn P t1 t2 : Nat} {F2 C2 F1 C1 : Obj} {k1 k2 k3 k4 : Addr × Obj} {vs : List Value} {ds : List Dat} {ps' : Array Value} {rest nx new R news : List (Addr × Obj)} {q1 q2 : Str} {vs1 vs2 : Array Value}
    (erest : rest = nx ++ ((f2, F2) :: (c2, C2) :: (f1, F1) :: (c1, C1) :: k1 :: k2 :: k3 :: k4 :: (P, tabObj ps') :: R)) (N : News h₀ L h news) (hN : ∀ p ∈ (lr, W.listOf vs.toArray nn) :: (new ++ rest), p ∈ news) (hnew : ∀ p ∈ new, AllLt p.1 rest) (hd : DatAll (new ++ nx) vs ds)
    (hnp : ∀ p ∈ nx, ∀ f ∈ ((f2, F2) :: (c2, C2) :: (f1, F1) :: (c1, C1) :: k1 :: k2 :: k3 :: k4 :: (P, tabObj ps') :: R), (p.1 : Nat) ≠ f.1) (h97 : ∀ p ∈ R, p.1 ≠ P) (hc1 : (c1 : Nat) ≠ P) (hc2 : (c2 : Nat) ≠ P) (hlr : (lr : Nat) ≠ P) (hkr : ∀ p ∈ rest, p.1 ≠ lr)
    (hd1 : C1.data = .fields vs1) (hv1 : vs1[1]? = some (.str q1 t1)) (hd2 : C2.data = .fields vs2) (hv2 : vs2[1]? = some (.str q2 t2)) (hq1 : q1 = qChars) (hq2 : q2 = qField) (hps : ps' = fullTab c1 c2) :
    ∃ R', TabS ps' R' ∧ (∀ p ∈ R', p.1 ≠ P) ∧ (∀ p ∈ R, p ∈ R') ∧ (∀ p ∈ R, p.1 ≠ lr) ∧ (lr, W.listOf vs.toArray nn) ∈ R' ∧ DatAll R' vs ds ∧ News h₀ L h ((P, tabObj ps') :: R') := by
  subst hq1 hq2
  have hfix : ∀ p ∈ ((f2, F2) :: (c2, C2) :: (f1, F1) :: (c1, C1) :: k1 :: k2 :: k3 :: k4 :: (P, tabObj ps') :: R), p ∈ rest := fix_right erest
  have hP : (P, tabObj ps') ∈ rest := hfix _ (.tail _ (.tail _ (.tail _ (.tail _ (.tail _ (.tail _ (.tail _ (.tail _ (.head _)))))))))
  have hR : ∀ p ∈ R, p ∈ rest := fun p hp => hfix _ (.tail _ (.tail _ (.tail _ (.tail _ (.tail _ (.tail _ (.tail _ (.tail _ (.tail _ hp)))))))))
  have hnxr : ∀ p ∈ nx, p ∈ rest := fun p hp => by rw [erest]; exact List.mem_append_left _ hp
  refine ⟨(lr, W.listOf vs.toArray nn) :: ((new ++ nx) ++ ((c2, C2) :: (c1, C1) :: R)), .full c1 c2 hps ⟨_, _, _, .tail _ (List.mem_append_right _ (.tail _ (.head _))), hd1, hv1⟩ ⟨_, _, _, .tail _ (List.mem_append_right _ (.head _)), hd2, hv2⟩, ?_, fun p hp => .tail _ (List.mem_append_right _ (.tail _ (.tail _ hp))), fun p hp => hkr p (hR p hp), .head _, hd.mono fun p hp => .tail _ (List.mem_append_left _ hp), ?_⟩
  · intro p hp
    rcases List.mem_cons.mp hp with rfl | hp
    · exact hlr
    · rcases List.mem_append.mp hp with hp | hp
      · rcases List.mem_append.mp hp with hp | hp
        · exact (Nat.ne_of_lt (allLt_iff.mp (hnew p hp) _ hP)).symm
        · exact hnp p hp _ (.tail _ (.tail _ (.tail _ (.tail _ (.tail _ (.tail _ (.tail _ (.tail _ (.head _)))))))))
      · rcases List.mem_cons.mp hp with rfl | hp
        · exact hc2
        · rcases List.mem_cons.mp hp with rfl | hp
          · exact hc1
          · exact h97 p hp
  · intro p hp
    rcases List.mem_cons.mp hp with rfl | hp
    · exact N _ (hN _ (.tail _ (List.mem_append_right _ hP)))
    · rcases List.mem_cons.mp hp with rfl | hp
      · exact N _ (hN _ (.head _))
      · rcases List.mem_append.mp hp with hp | hp
        · rcases List.mem_append.mp hp with hp | hp
          · exact N _ (hN _ (.tail _ (List.mem_append_left _ hp)))
          · exact N _ (hN _ (.tail _ (List.mem_append_right _ (hnxr p hp))))
        · refine N _ (hN _ (.tail _ (List.mem_append_right _ ?_)))
          rcases List.mem_cons.mp hp with rfl | hp
          · exact hfix _ (.tail _ (.head _))
          · rcases List.mem_cons.mp hp with rfl | hp
            · exact hfix _ (.tail _ (.tail _ (.tail _ (.head _))))
            · exact hR p hp
theorem S_one (d k : Nat) : decide (S [d] = ({ cps := #[k] } : Str)) = (d == k) := by
  have e : (S [d] = ({ cps := #[k] } : Str)) ↔ d = k := by
    rw [show ({ cps := #[k] } : Str) = S [k] from rfl, S_inj]; simp
  by_cases h : d = k
  · rw [decide_eq_true (e.mpr h)]; simp [h]
  · rw [decide_eq_false (fun q => h (e.mp q))]; simp [h]
theorem pc_fact {d : Nat} {b : Bool} (h : isPC d = b) : (decide (S [d] = { cps := #[71] }) || (decide (S [d] = { cps := #[121] }) || (decide (S [d] = { cps := #[89] }) || (decide (S [d] = { cps := #[117] }) || (decide (S [d] = { cps := #[81] }) || (decide (S [d] = { cps := #[113] }) || (decide (S [d] = { cps := #[77] }) || (decide (S [d] = { cps := #[76] }) || (decide (S [d] = { cps := #[119] }) || (decide (S [d] = { cps := #[87] }) || (decide (S [d] = { cps := #[100] }) || (decide (S [d] = { cps := #[68] }) || (decide (S [d] = { cps := #[70] }) || (decide (S [d] = { cps := #[103] }) || (decide (S [d] = { cps := #[69] }) || (decide (S [d] = { cps := #[101] }) || (decide (S [d] = { cps := #[99] }) || (decide (S [d] = { cps := #[97] }) || (decide (S [d] = { cps := #[98] }) || (decide (S [d] = { cps := #[66] }) || (decide (S [d] = { cps := #[104] }) || (decide (S [d] = { cps := #[72] }) || (decide (S [d] = { cps := #[75] }) || (decide (S [d] = { cps := #[107] }) || (decide (S [d] = { cps := #[109] }) || (decide (S [d] = { cps := #[115] }) || (decide (S [d] = { cps := #[83] }) || (decide (S [d] = { cps := #[65] }) || (decide (S [d] = { cps := #[122] }) || (decide (S [d] = { cps := #[90] }) || (decide (S [d] = { cps := #[79] }) || (decide (S [d] = { cps := #[118] }) || (decide (S [d] = { cps := #[86] }) || (decide (S [d] = { cps := #[120] }) || (decide (S [d] = { cps := #[88] }) || false))))))))))))))))))))))))))))))))))) = b := by
  simp only [S_one]
  rw [← h]
  simp only [isPC, List.contains_cons, List.contains_nil]
theorem ext_fits {cv qv : List Value} (h1 : cv.length ≤ 2000) (h2 : qv.length ≤ 2000) : ¬(!cv.toArray.isEmpty && Builtin.List.listTooLong (cv.toArray.size + qv.toArray.size)) = true := by
  have e : Builtin.List.listTooLong (cv.toArray.size + qv.toArray.size) = false := by
    unfold Builtin.List.listTooLong
    rw [sizeLine_eq]
    simp only [List.size_toArray]
    exact decide_eq_false (by omega)
  rw [e, Bool.and_false]
  exact Bool.false_ne_true
section
variable {w : World} {p : Program} {loose : List Str} {mean : ExcName → Option Value} {mg mb : Str → Option Value}
  {dp un : Nat} {gd : Option (List Code)} {cn : Str} {cs : Scope} {a : Addr} {ccd : Value} {cl : List (Str × Addr)} {outer : List Env} {A₀ : Around} {base h₀ : Heap} {L : Addr} {m : Str → Option Value} {s : Shared} {Q E : Value → Shared → Prop}

end
end Mine

-- MJoin
namespace Mine
set_option maxRecDepth 100000
set_option maxHeartbeats 8000000
theorem strs_of : ∀ {cb : List Nat} {cv : List Value}, DatAll [] cv (sgn cb) → ∃ l : List (Str × Tok), cv = strValues l ∧ l.map (·.1) = cb.map fun d => S [d]
  | [], cv, h => ⟨[], by rw [nil_of h]; rfl, rfl⟩
  | d :: cb, cv, h => by
    cases h with
    | cons h1 h2 =>
      cases h1 with
      | str x t =>
        obtain ⟨l, e1, e2⟩ := strs_of (cb := cb) h2
        exact ⟨(S [d], t) :: l, by rw [e1]; rfl, by simp [e2]⟩
theorem join_signs (cb : List Nat) : Txt.join (PySem.Str.ofString "") (cb.map fun d => S [d]) = S cb := by
  unfold Txt.join
  rw [StrLaws.glued_eq_join]
  induction cb with
  | nil => rfl
  | cons d l ih =>
    cases l with
    | nil => rfl
    | cons e l =>
      show S [d] ++ PySem.Str.ofString "" ++ Str.join (PySem.Str.ofString "") ((e :: l).map fun d => S [d]) = _
      rw [ih, show PySem.Str.ofString "" = S [] from rfl, S_append, S_append]
      rfl
theorem joinOk_signs {cb : List Nat} (hl : cb.length ≤ 2000) : JoinOk (PySem.Str.ofString "") (cb.map fun d => S [d]) = true := by
  have : ∀ (cb : List Nat) (k : Nat), (cb.map fun d => S [d]).foldl (fun a (p : Str) => a + p.length + (PySem.Str.ofString "").length) k = k + cb.length := by
    intro cb
    induction cb with
    | nil => intro k; rfl
    | cons d l ih => intro k; rw [List.map_cons, List.foldl_cons, ih, S_length, List.length_cons]; have : (PySem.Str.ofString "").length = 0 := rfl; rw [this]; simp only [List.length_cons, List.length_nil]; omega
  unfold JoinOk
  rw [Bool.not_eq_true', List.foldl_toArray, this]
  unfold Builtin.Str.tooLong sizeLine
  have e : (2 : Nat) ^ 24 = 16777216 := by decide
  exact decide_eq_false (by omega)
theorem my_post {s : Shared} {sep : Str} {Q : Value → Shared → Prop} : ∀ (l : List (Str × Tok)), ((Txt.join sep (l.map (·.1))).length ≤ sizeLine ∧ ∀ t' k, s.toks ≤ k → Q (.str (Txt.join sep (l.map (·.1))) t') { s with toks := k }) → (joinMade sep l).post Q s
  | [], h => ⟨h.1, h.2 _ _ (Nat.le_succ _)⟩
  | [p], h => h.2 p.2 s.toks (Nat.le_refl _)
  | _ :: _ :: _, h => ⟨h.1, h.2 _ _ (Nat.le_succ _)⟩
theorem my_join {M : World} {A : Around} {h₀ : Heap} {L o : Addr} {news : List (Addr × Obj)} {prog : Program} {s : Shared} {E : Value → Shared → Prop} {cv : List Value} {cb : List Nat} {n t : Nat} {Q : Value → Shared → Prop}
    (N : News h₀ L s.heap news) (hm : (o, W.listOf cv.toArray n) ∈ news) (hd : DatAll [] cv (sgn cb)) (hl : cb.length ≤ 2000) (h : ∀ t' k, s.toks ≤ k → Q (.str (S cb) t') { s with toks := k }) : wpAny (model prog M) A (call (.builtin "str.join") [.str (PySem.Str.ofString "") t, .ref o]) Q E s := by
  obtain ⟨l, rfl, e2⟩ := strs_of hd
  have hok := joinOk_signs hl
  rw [← e2] at hok
  have e3 := join_signs cb
  rw [← e2] at e3
  unfold JoinOk at hok
  rw [Bool.not_eq_true'] at hok
  refine call_meets F.slot_str_join (typeIs_str _ _ _) F.entry_str_join (F.args_str_join_2 _ _) (meets_str_join_list _ t o l hok) ⟨⟨_, (N _ hm).1, rfl, n, rfl⟩, my_post l ⟨joinFit_length hok, ?_⟩⟩
  rw [e3]; exact h
section
variable {w : World} {p : Program} {loose : List Str} {mean : ExcName → Option Value} {mg mb : Str → Option Value}
  {dp un : Nat} {gd : Option (List Code)} {cn : Str} {cs : Scope} {a : Addr} {ccd : Value} {cl : List (Str × Addr)} {outer : List Env} {A₀ : Around} {base h₀ : Heap} {L : Addr} {m : Str → Option Value} {s : Shared} {Q E : Value → Shared → Prop}

end
end Mine

-- MDel
namespace Mine
set_option maxRecDepth 100000
set_option maxHeartbeats 8000000
theorem selects_all (k n : Nat) (h : k < n) : (if (1 : Int) > 0 then (decide ((0 : Int) ≤ (k : Int)) && decide ((k : Int) < (n : Int)) && (((k : Int) - 0) % 1 == 0)) else (decide ((n : Int) < (k : Int)) && decide ((k : Int) ≤ 0) && ((0 - (k : Int)) % (-1) == 0))) = true := by
  rw [if_pos (by decide)]
  simp
  omega
theorem my_delAll0 {prog : Program} {w : World} {A : Around} {E : Value → Shared → Prop} {s : Shared} {l sl : Addr} {items : Array Value} {n : Nat} {Q : Unit → Shared → Prop} (hl : s.heap.get? l = some (W.listOf items n)) (hs : s.heap.IsSliceOf sl .none .none .none) (hsz : items.size ≤ sizeLine)
    (h : ∀ f : Array Value → Array Value, f items = #[] → Q () { s with heap := s.heap.update l (Obj.mapSeq f) }) : wpAny (model prog w) A (delItem (.ref l) (.ref sl)) Q E s := by
  have hT : s.TypeIs (.ref l) "list" := ⟨_, hl, rfl⟩
  obtain ⟨os, hos, hcs, hds⟩ := id hs
  have hTs : s.TypeIs (.ref sl) "slice" := ⟨os, hos, hcs⟩
  refine wpAny_delItem_slot hT (by decide) F.slot_list_delitem (wpAny_call_entry F.slot_list_delitem hT F.entry_list_delitem ?_ (F.args_list_delitem_2 _ _))
  show wpAny _ _ (Builtin.List.listSubscript? (.ref sl) >>= _) _ _ s
  refine wpAny_bind ?_
  unfold Builtin.List.listSubscript?
  refine wpAny_bind (wpAny_specialOf hTs slice_no_index ?_)
  simp only [Option.isNone_none, if_true]
  refine wpAny_pure ?_
  show wpAny _ _ (typeOf (.ref sl) >>= _) _ _ s
  refine wpAny_bind (wpAny_typeOf hTs ?_)
  rw [if_neg (by decide)]
  rw [listSliceParts_eq]
  have hstep : ¬ ((rawPart none == rawInt 0) = true) := Bool.false_ne_true
  refine wpAny_bind (wpAny_bind (wpAny_field hos hds (x := .none) rfl (wpAny_bind (wpAny_listPart .none ?_))))
  rw [if_neg hstep]
  refine wpAny_bind (wpAny_field hos hds (x := .none) rfl (wpAny_bind (wpAny_listPart .none ?_)))
  refine wpAny_bind (wpAny_field hos hds (x := .none) rfl (wpAny_bind (wpAny_listPart .none (wpAny_pure ?_))))
  refine wpAny_bind (m := Builtin.List.listItems (.ref l)) ?_
  unfold Builtin.List.listItems
  refine wpAny_bind (wpAny_seqItems hl rfl (wpAny_pure ?_))
  refine wpAny_bind (wpAny_of_eq (sliceIndices_raw none none none items.size (by simp)) ?_)
  refine wpAny_bind (wpAny_rule ?_)
  have e0 : ((items.toList.zipIdx.filterMap fun (x : Value × Nat) => if (if (1 : Int) > 0 then (decide ((0 : Int) ≤ (x.2 : Int)) && decide ((x.2 : Int) < (items.size : Int)) && (((x.2 : Int) - 0) % 1 == 0)) else (decide ((items.size : Int) < (x.2 : Int)) && decide ((x.2 : Int) ≤ 0) && ((0 - (x.2 : Int)) % (-1) == 0))) = true then none else some x.1).toArray : Array Value) = #[] := by
    rw [List.filterMap_eq_nil_iff.mpr]
    rintro ⟨x, k⟩ hm
    have hk := List.snd_lt_of_mem_zipIdx hm
    exact if_pos (selects_all k items.size (by simpa using hk))
  refine wpAny_bind (listUpdate_at hl rfl ?_ hsz (by refine Nat.le_trans (Nat.le_of_eq (congrArg Array.size e0)) (Nat.zero_le _)))
  refine wpAny_bind (wpAny_letGo ?_)
  exact wpAny_pure ⟨_, rfl, h _ e0⟩
theorem my_delAll {prog : Program} {w : World} {A : Around} {E : Value → Shared → Prop} {s : Shared} {h₀ h : Heap} {L l : Addr} {m : Str → Option Value} {items : Array Value} {n : Nat} {news : List (Addr × Obj)} {g : Obj → List (Addr × Obj)} {Q : Unit → Shared → Prop} (hh : s.heap = h.push { cls := .type "slice", data := .fields #[.none, .none, .none] })
    (F : Fr h₀ L h m) (N : News h₀ L h news) (U : UpdF l (W.listOf items n) news g) (hsz : items.size ≤ sizeLine)
    (k : ∀ h' n', Fr h₀ L h' m → News h₀ L h' (g (W.listOf #[] n')) → Q () { s with heap := h' }) : wpAny (model prog w) A (delItem (.ref l) (.ref h.objs.size)) Q E s := by
  obtain ⟨own, rest, rfl, hg, h1, h2⟩ := U.split
  have hm := N (l, W.listOf items n) (List.mem_append_right _ (.head _))
  have hl : s.heap.get? l = some (W.listOf items n) := by rw [hh]; exact Heap.get?_push_of_some _ hm.1
  refine my_delAll0 hl (by rw [hh]; exact Heap.IsSliceOf.new ..) hsz fun f hf => ?_
  have hs : Heap.SameBut l s.heap (s.heap.update l (Obj.mapSeq f)) := Heap.SameBut.update ..
  have ho : (s.heap.update l (Obj.mapSeq f)).get? l = some (W.listOf #[] (if (#[] : Array Value).size == items.size then n else n + 1)) := by
    rw [Heap.get?_update_self _ hl rfl]
    show some (W.listOf (f items) (if (f items).size == items.size then n else n + 1)) = _
    rw [hf]
  have F1 : Fr h₀ L s.heap m := by rw [hh]; exact F.push _
  have N1 : News h₀ L s.heap (own ++ (l, W.listOf items n) :: rest) := by rw [hh]; exact fun p hp => ⟨Heap.get?_push_of_some _ (N p hp).1, (N p hp).2⟩
  refine k _ _ ⟨F1.ns.sameBut hs (Ne.symm hm.2.1), fun b ob e => (hs.2 b (fun q => ?_)).trans (F1.keep b ob e), F1.above⟩ (hg _ ▸ N1.setAt h1 h2 hs ho)
  rw [q, hm.2.2] at e; cases e
section
variable {w : World} {p : Program} {loose : List Str} {mean : ExcName → Option Value} {mg mb : Str → Option Value}
  {dp un : Nat} {gd : Option (List Code)} {cn : Str} {cs : Scope} {a : Addr} {ccd : Value} {cl : List (Str × Addr)} {outer : List Env} {A₀ : Around} {base h₀ : Heap} {L : Addr} {m : Str → Option Value} {s : Shared} {Q E : Value → Shared → Prop}

end
end Mine

-- MTok
namespace Mine
set_option maxRecDepth 100000
set_option maxHeartbeats 8000000
local macro_rules | `(tactic| walk_at "MY_PAD0") => `(tactic| fail)
local macro_rules | `(tactic| walk_at "MY_PAD1") => `(tactic| fail)
local macro_rules | `(tactic| walk_at "MY_PAD2") => `(tactic| fail)
local macro_rules | `(tactic| walk_at "MY_PAD3") => `(tactic| fail)
local macro_rules | `(tactic| walk_at "MY_PAD4") => `(tactic| fail)
local macro_rules | `(tactic| walk_at "MY_PAD5") => `(tactic| fail)
local macro_rules | `(tactic| walk_at "MY_PAD6") => `(tactic| fail)
local macro_rules | `(tactic| walk_at "MY_PAD7") => `(tactic| fail)
local macro_rules | `(tactic| walk_at "MY_PAD8") => `(tactic| fail)
local macro_rules | `(tactic| walk_at "MY_PAD9") => `(tactic| fail)
local macro_rules | `(tactic| walk_at "MY_PAD10") => `(tactic| fail)
local macro_rules | `(tactic| walk_at "MY_PAD11") => `(tactic| fail)
local macro_rules | `(tactic| walk_at "MY_PAD12") => `(tactic| fail)
local macro_rules | `(tactic| walk_at "MY_PAD13") => `(tactic| fail)
local macro_rules | `(tactic| walk_at "MY_PAD14") => `(tactic| fail)
theorem reset_MTok : True := by
  w_top off
  k_with_none
  trivial
local macro_rules | `(tactic| walk_at "truthy ref") => `(tactic| (k_here; (with_reducible show wpAny _ _ (truthy (Value.ref _)) _ _ _); k_dflt (refine' my_truthyS ?N ?m ?f ?_; (case N => k_asm); (case m => k_mem); (case f => omega); k_whole; intro tk9)))
local macro_rules | `(tactic| walk_at "subscriptTail Name UnaryOp ref int") => `(tactic| (k_here; (with_reducible show wpAny _ _ (subscriptTail _ _ (Value.ref _) (Value.int (-1) _)) _ _ _); k_dflt (refine' my_last ?N ?m ?_; (case N => k_asm); (case m => k_mem); k_whole)))
local macro_rules | `(tactic| k_mem) => `(tactic| assumption)
local macro_rules | `(tactic| walk_at "exec For") => `(tactic| (k_here; (rename Fr _ _ _ _ => lF'); (with_unfolding_all refine' For_turns lF' ?_); k_whole; walk_say "MY FOR"))
local macro_rules | `(tactic| walk_at "MY_ENTERC") => `(tactic| k_dflt (refine' code_defC1 (PySem.Str.ofString "pattern") _ ?k1 ?k2 ?k3 ?k4 ?k5 ?kA ?kF ?kK ?k6 ?k7 ?k8 ?k9 ?kBe ?kB ?kB2 ?kD ?_ ?c2 ?c3 ?c4; (case kA => exact rfl); (case kF => exact rfl); (case kK => assumption); (case k1 => k_asm); (case k2 => k_asm); (case k3 => k_asm); (case k4 => k_asm); (case k5 => k_asm); (case k6 => k_is); (case k7 => k_is); (case k8 => ktr_room); (case k9 => first | exact BindsTo.of_eq rfl | exact binds_K (by k_in) rfl (by k_is) rfl rfl rfl | fail "k_enter: no rule for these arguments"); (case kBe => exact rfl); (case kB => exact fun _ => rfl); (case kB2 => exact rfl); (case kD => decide +kernel); (case c2 => exact rfl); (case c3 => exact rfl); (case c4 => exact rfl); k_whole; intro g' L' h' tk' cells' FG' F' N' Y' B' X' T' l1; (try k_lt l1); k_cells Y'; (try simp only [List.cons_append, List.nil_append] at N'); (try dsimp only); (try k_lift B'); (try k_fold)))
local macro_rules | `(tactic| walk_at "newList") => `(tactic| (k_here; k_dflt (refine' newList_K ?k1 ?k2 ?_; (case k1 => k_asm); (case k2 => k_asm); k_whole); intro l' h' F' N' l1; (try k_lt l1); (first
  | (have la9 : AllLt _ _ := l1; have lo9 := allLt_ne la9) | (have la9 : AllLt _ _ := l1.2; have lo9 := allLt_ne la9) | (have la9 : AllLt _ _ := l1.2.2; have lo9 := allLt_ne la9) | (have la9 : AllLt _ _ := l1.2.2.2; have lo9 := allLt_ne la9) | (have la9 : AllLt _ _ := l1.2.2.2.2; have lo9 := allLt_ne la9) | (have la9 : AllLt _ _ := l1.2.2.2.2.2; have lo9 := allLt_ne la9) | (have la9 : AllLt _ _ := l1.2.2.2.2.2.2; have lo9 := allLt_ne la9)
  | (have la9 : AllLt _ _ := l1.2.2.2.2.2.2.2; have lo9 := allLt_ne la9) | (have la9 : AllLt _ _ := l1.2.2.2.2.2.2.2.2; have lo9 := allLt_ne la9) | (have la9 : AllLt _ _ := l1.2.2.2.2.2.2.2.2.2; have lo9 := allLt_ne la9) | (have la9 : AllLt _ _ := l1.2.2.2.2.2.2.2.2.2.2; have lo9 := allLt_ne la9) | (have la9 : AllLt _ _ := l1.2.2.2.2.2.2.2.2.2.2.2; have lo9 := allLt_ne la9) | (have la9 : AllLt _ _ := l1.2.2.2.2.2.2.2.2.2.2.2.2; have lo9 := allLt_ne la9)
  | (have la9 : AllLt _ _ := l1.2.2.2.2.2.2.2.2.2.2.2.2.2; have lo9 := allLt_ne la9) | (have la9 : AllLt _ _ := l1.2.2.2.2.2.2.2.2.2.2.2.2.2.2; have lo9 := allLt_ne la9) | (have la9 : AllLt _ _ := l1.2.2.2.2.2.2.2.2.2.2.2.2.2.2.2; have lo9 := allLt_ne la9) | skip); (try k_sweep)))

local macro_rules | `(tactic| k_all) => `(tactic| assumption)
local macro_rules | `(tactic| walk_at "truthy str") => `(tactic| (k_here; (first | (with_reducible refine my_tr1 ?_) | (with_reducible refine my_tr0 ?_)); intro tk9))
local macro_rules | `(tactic| walk_at "subscriptTail Name Constant ref int") => `(tactic| (k_here; (with_reducible show wpAny _ _ (subscriptTail _ _ (Value.ref _) (Value.int 0 _)) _ _ _); k_dflt (refine' my_first ?N ?m ?_; (case N => k_asm); (case m => k_mem); k_whole)))
local macro_rules | `(tactic| walk_at "callWith") => `(tactic| (k_here; (with_reducible show wpAny _ _ (callWith _ (Value.builtin _) (_ :: _) (backTo _ (starEach (_ :: _) _)) []) _ _ _); refine callWith_method1 ?_))
local macro_rules | `(tactic| walk_at $s:str) => `(tactic| k_extra $s)
section
variable {w : World} {p : Program} {loose : List Str} {mean : ExcName → Option Value} {mg mb : Str → Option Value}
  {dp un : Nat} {gd : Option (List Code)} {cn : Str} {cs : Scope} {a : Addr} {ccd : Value} {cl : List (Str × Addr)} {outer : List Env} {A₀ : Around} {base h₀ : Heap} {L : Addr} {m : Str → Option Value} {s : Shared} {Q E : Value → Shared → Prop}
inductive Tag : Nat → Prop
  | mk (n : Nat) : Tag n
theorem tok_spec0 {R : List (Addr × Obj)} {x : List Nat} {t : Tok} {ps : Array Value}
    (B : Below A₀ base outer h₀) (F : Fr h₀ L s.heap m) (X : (hd.heap_39 w.params).In h₀) (N : News h₀ L s.heap ((97, tabObj ps) :: R))
    (T : Top p loose mean mg mb h₀) (C : CodeHd base 101 97) (hk : cs.kind = .function) (hdp : dp + 3 < recursionLimit) (hu : un + 24 < cLine)
    (hx : x.length ≤ 400) (hS : TabS ps R) (h97 : ∀ p ∈ R, p.1 ≠ 97)
    (ret : ∀ (o nn : Nat) (vs : List Value) (ps' : Array Value) (R' : List (Addr × Obj)) h' tk', TabS ps' R' → (∀ p ∈ R', p.1 ≠ 97) → (∀ p ∈ R, p ∈ R') → (∀ p ∈ R, p.1 ≠ o) → (o, W.listOf vs.toArray nn) ∈ R' → DatAll R' vs ((tokR x).reverse.map Tk.tk) → Fr h₀ L h' m → News h₀ L h' ((97, tabObj ps') :: R') → Q (.ref o) { s with heap := h', toks := tk' }) :
    wpAny (model PySem.Challenge.rw_wx0001_01.row.prog w) (ktrTop dp un gd cn cs L a ccd cl outer) (call (.ref 102) [.str (S x) t]) Q E s := by
  have hy9 : (repL [39, 39] [0] x).length ≤ 800 := Nat.le_trans (repL_length x) (by omega)
  have hSx : (S x).length ≤ 1048576 := by rw [S_length]; omega
  revert X B F T; k_fill; intro B F X T
  k_with_none
  k_with "exec FunctionDef" => (
    refine' nestDef_K ?d0 ?k0 ?a0 ?_
    (case d0 => exact rfl)
    (case k0 => exact rfl)
    (case a0 => exact rfl)
    first
    | ((rename Tab1 _ _ _ => hS1)
       k_dflt (refine' nest_2' (R := R) ?F ?N ?T ?C ?cd ?hq ?S ?U ?cl ?hR ?k97 ?kn ?kf ?kc ?kr ?_)
       (case F => k_asm)
       (case N => k_asm)
       (case T => k_asm)
       (case cd => exact rfl)
       (case hq => exact rfl)
       (case C => kn_code)
       (case S => assumption)
       (case U => exact UpdF.tail (by k_ne) (UpdF.tail (by k_ne) (UpdF.tail (by k_ne) (UpdF.tail (by k_ne) (UpdF.tail (by k_ne) (UpdF.tail (by k_ne) (UpdF.tail (by k_ne) (UpdF.tail (by k_ne) (UpdF.tail (by k_ne) (UpdF.tail (by k_ne) (UpdF.head (by assumption))))))))))))
       (case cl => exact rfl)
       (case hR => (intro p9 hp9; repeat (first | exact hp9 | refine List.Mem.tail _ ?_)))
       (case k97 => assumption)
       (case kn => assumption)
       (case kf => assumption)
       (case kc => assumption)
       (case kr => assumption)
       intro f2 c2 oc2 vs2 t2 ctv2 doc2 h' tk' F' N' hd2 hv2 l3 hcf2 hd97 hdn hdf hdc hdr
       (try dsimp only at N')
       (k_lt l3)
       (k_sweep))
    | (k_dflt (refine' nest_1' (R := R) ?F ?N ?T ?C ?cd ?hq ?S ?U ?cl ?hR ?k97 ?kn ?kf ?kc ?kr ?_)
       (case F => k_asm)
       (case N => k_asm)
       (case T => k_asm)
       (case cd => exact rfl)
       (case hq => exact rfl)
       (case C => kn_code)
       (case S => assumption)
       (case U => exact UpdF.tail (by k_ne) (UpdF.tail (by k_ne) (UpdF.tail (by k_ne) (UpdF.tail (by k_ne) (UpdF.tail (by k_ne) (UpdF.tail (by k_ne) (UpdF.tail (by k_ne) (UpdF.tail (by k_ne) (UpdF.head (by assumption))))))))))
       (case cl => exact rfl)
       (case hR => (intro p9 hp9; repeat (first | exact hp9 | refine List.Mem.tail _ ?_)))
       (case k97 => assumption)
       (case kn => assumption)
       (case kf => assumption)
       (case kc => assumption)
       (case kr => assumption)
       intro f1 c1 oc1 vs1 t1 ctv1 doc1 h' tk' ps1 F' N' hd1 hv1 l2 hcf1 hc97 hcn hcf hcc hcr hS1
       (try dsimp only at N')
       (k_lt l2)
       (k_sweep)))
  k_with "exec For Name Call cons nil" => (
    (rename Fr _ _ _ _ => lF')
    (with_unfolding_all refine' For_turns lF' ?_))
  k_with "pyIter str" => (
    rw [rep_qq]
    (rename News _ _ _ _ => N0); (rename Fr _ _ _ _ => F0)
    refine tok_two N0 (fun {m9 s9 Q9 E9} c n rv Lc tn tf n1 n2 n4 rest hfix hkn hkf hkr hrl hnl F9 N9 hret => ?_) (fun {m9 s9 Q9 E9} cb cv rv Ln Lf n3 n4 rest hfix hkc hkr hrl hcl hcd F9 N9 hret => ?_) (fun hAF hAC => tok_loop (repL [39, 39] [0] x) rfl F0 (tok_swap N0) ?n1 ?n2 ?n3 ?n4 rfl (fun d td k rv cv qv q tn tf n1 n2 n3 n4 n5 rest u h9 tk9 T9 hg finB finC finA F9 N9 => ?_) (fun k rv cv qv q tn tf n1 n2 n3 n4 nx rest u h9 tk9 erest ek hdn hsz hrl hrd hcd hnp hkn hkf hkc hkr F9 N9 => ?_))
    (case n1 => (repeat (refine List.forall_mem_cons.mpr ⟨?yy, ?_⟩; (case yy => k_ne))); assumption)
    (case n2 => (repeat (refine List.forall_mem_cons.mpr ⟨?yy, ?_⟩; (case yy => k_ne))); assumption)
    (case n3 => (repeat (refine List.forall_mem_cons.mpr ⟨?yy, ?_⟩; (case yy => k_ne))); assumption)
    (case n4 => (repeat (refine List.forall_mem_cons.mpr ⟨?yy, ?_⟩; (case yy => k_ne))); assumption)
    all_goals clear F0 N0
    all_goals (try (obtain ⟨hcase, hsz, hrl, hcd, hqd, hfix, hkn, hkf, hkc, hkr⟩ := hg))
    all_goals (try (have hfix := fix_right erest))
    all_goals (try (have hScb : (S cb).length ≤ 1048576 := by rw [S_length]; omega))
    all_goals (try (have hlen9 := len_res hsz hrl hy9))
    all_goals (try (have mf2 := hfix _ (.head _); have mc2 := hfix _ (.tail _ (.head _)); have mf1 := hfix _ (.tail _ (.tail _ (.head _))); have mc1 := hfix _ (.tail _ (.tail _ (.tail _ (.head _)))); have mr := hfix _ (.tail _ (.tail _ (.tail _ (.tail _ (.head _))))); have mn := hfix _ (.tail _ (.tail _ (.tail _ (.tail _ (.tail _ (.head _)))))); have mf := hfix _ (.tail _ (.tail _ (.tail _ (.tail _ (.tail _ (.tail _ (.head _))))))); have mc := hfix _ (.tail _ (.tail _ (.tail _ (.tail _ (.tail _ (.tail _ (.tail _ (.head _)))))))) ))
    all_goals (try (rcases hcase with ⟨res, rfl, rfl, e39, ek⟩ | ⟨res, c, n, rfl, rfl, e39, ek⟩ | ⟨res, cb, cv0, xc, rfl, rfl, hcb, e39, ek⟩ | ⟨res, cb, cv0, xc, rfl, rfl, hcb, e39, hpc, e0, ek⟩ | ⟨res, n, rfl, rfl, e39, hpc, edc, ek⟩ | ⟨res, c, n, rfl, rfl, e39, hpc, edc, ek⟩ | ⟨res, rfl, rfl, e39, hpc, e0, ek⟩ | ⟨res, c, n, rfl, rfl, e39, hpc, ek⟩ | ⟨res, cb, rfl, e39, hpc, ek⟩ | ⟨res, cb, rfl, rfl, ⟨hq1, hq2, hq3, hq4, hq5⟩, e39, ek⟩ | ⟨res, cb, qq, rfl, hqne, ⟨hq1, hq2, hq3, hq4, hq5⟩, e39, ek⟩ | ⟨res, cb, qq, rfl, ⟨hq1, hq2, hq3, hq4, hq5⟩, e39, ek⟩))
    all_goals (try (rcases hdn with ⟨res, c, n, qb, rfl, rfl, hkend⟩ | ⟨res, cb, cv0, xc, qb, rfl, rfl, hcb, hkend⟩ | ⟨res, qb, rfl, rfl, hkend⟩))
    all_goals (try (have hpk := pc_fact hpc))
    all_goals (try (have hx2 := neN hq2; have hx3 := neN hq3; have hx4 := neN hq4; have hx5 := neN hq5))
    all_goals (try (have hqvl := (hqd _ rfl).length; rw [List.length_map] at hqvl))
    all_goals (try (have hcvl := hcd.length; rw [List.length_map] at hcvl))
    all_goals (try (simp only [List.length_append, List.length_singleton] at hcvl))
    all_goals (try (dsimp only [fcV, fnV, qLed, qVal, List.nil_append, List.cons_append] at F9 N9 hcd hqd))
    all_goals (try (dsimp only [fcV, fnV, qLed, qVal, List.nil_append, List.cons_append] at F9 N9 hcd))
    all_goals (try (dsimp only [fdSz, qSz] at hlen9))
    have tg := Tag.mk 1
    rotate_left 1
    have tg := Tag.mk 2
    rotate_left 1
    have tg := Tag.mk 3
    rotate_left 1
    have tg := Tag.mk 4
    rotate_left 1
    have tg := Tag.mk 5
    rotate_left 1
    have tg := Tag.mk 6
    rotate_left 1
    have tg := Tag.mk 7
    rotate_left 1
    have tg := Tag.mk 8
    rotate_left 1
    have tg := Tag.mk 9
    rotate_left 1
    have tg := Tag.mk 10
    rotate_left 1
    have tg := Tag.mk 11
    rotate_left 1
    have tg := Tag.mk 12
    rotate_left 1
    have tg := Tag.mk 13
    rotate_left 1
    have tg := Tag.mk 14
    rotate_left 1
    have tg := Tag.mk 15
    rotate_left 1
    have tg := Tag.mk 16
    rotate_left 1
    have tg := Tag.mk 17
    rotate_left 1)
  k_with "delItem" => (
    k_dflt (refine' my_delAll rfl ?F ?N ?U ?z ?_)
    (case F => k_asm)
    (case N => k_asm)
    (case U => k_updF)
    (case z => (rw [sizeLine_eq]; simp; omega))
    intro h' n' F' N'
    (try dsimp only at N')
    (k_sweep))
  k_with "call builtin:list.extend" => (first
    | ((rename (List.length _ ≠ 0) => hqne)
       k_dflt (refine' kl_extend (l := _ ++ _) ?F ?N ?b ?e ?ne ?U ?d ?z ?y ?_)
       (case F => k_asm)
       (case N => k_asm)
       (case b => k_mem)
       (case e => exact rfl)
       (case ne => exact hqne)
       (case U => k_upd)
       (case d => exact ext_fits (by omega) (by omega))
       (case z => (rw [sizeLine_eq]; simp; omega))
       (case y => (rw [sizeLine_eq]; simp; omega))
       intro h' F' N'
       (try dsimp only at N')
       (k_sweep))
    | (k_dflt (refine' kxn_extend ?F ?N ?b ?e ?U ?d ?z ?y ?_)
       (case F => k_asm)
       (case N => k_asm)
       (case b => k_mem)
       (case e => exact rfl)
       (case U => k_upd)
       (case d => exact ext_fits (qv := []) (by omega) (by simp))
       (case z => (rw [sizeLine_eq]; simp; omega))
       (case y => (rw [sizeLine_eq]; simp; omega))
       intro h' F' N'
       (try dsimp only at N')
       (k_sweep)))
  k_with "call builtin:str.replace" => (
    refine' SC.replaceW ?h1 ?h2 ?h3 ?h4 ?h5 ?h6 ?_
    (case h1 => exact Nat.ne_of_gt (by omega))
    (case h2 => exact Nat.ne_of_gt (by omega))
    (case h3 => exact Nat.ne_of_lt (by omega))
    (case h4 => decide)
    (case h5 => assumption)
    (case h6 => decide)
    intro t9 k9)
  k_with "call builtin:str.join" => (
    k_dflt (refine' my_join ?N ?m ?d ?l ?_)
    (case N => k_asm)
    (case m => k_mem)
    (case d => assumption)
    (case l => omega)
    intro tj kj hkj
    (try dsimp only at hkj))
  k_with "call ref" => (first
    | ((with_reducible refine' hAF _ _ _ _ _ _ _ _ _ _ ?x1 ?x2 ?x3 ?x4 ?x5 ?x6 ?x7 ?x8 ?_)
       (case x1 => assumption)
       (case x2 => assumption)
       (case x3 => assumption)
       (case x4 => assumption)
       (case x7 => k_asm)
       (case x8 => k_asm)
       (case x5 => omega)
       (case x6 => omega)
       intro u9 v9 t0 t1 t2 tn9 tf9 k1 k2 n19 n29 n49 h9' tk9' F9' N9' hnew9 l8 l9
       (k_lt2 l8)
       (k_lt l9)
       (k_sweep))
    | ((with_reducible refine' hAC _ _ _ _ _ _ _ _ ?x1 ?x2 ?x3 ?x4 ?x5 ?x6 ?x7 ?x8 ?_)
       (case x1 => assumption)
       (case x2 => assumption)
       (case x3 => assumption)
       (case x6 => assumption)
       (case x7 => k_asm)
       (case x8 => k_asm)
       (case x4 => omega)
       (case x5 => omega)
       intro v9 t0 t1 k1 n39 n49 h9' tk9' F9' N9' hnew9 l9
       (k_lt l9)
       (k_sweep))
    | (k_dflt (refine wpAny_call ?_)
       k_dflt (refine' code_nest ?k1 ?k2 ?k3 ?k4 ?k5 ?kA ?kF ?kK ?k6 ?k7 ?k8 ?k9 ?kB ?_ ?c2 ?c3 ?c4 ?c5)
       (case kA => exact rfl)
       (case kF => exact rfl)
       (case kK => exact rfl)
       (case k1 => k_asm)
       (case k2 => k_asm)
       (case k3 => k_asm)
       (case k4 => k_asm)
       (case k5 => k_asm)
       (case k6 => k_mem)
       (case k7 => exact codeRec_news (by k_asm) (by k_mem) (by assumption) (by assumption))
       (case k8 => ktr_room)
       (case k9 => exact BindsTo.of_eq rfl)
       (case c5 => decide)
       (case kB => exact locs rfl)
       (case c2 => exact rfl)
       (case c3 => exact rfl)
       (case c4 => exact rfl)
       intro g' L' h' FG' F' N' B' X' T'
       (try dsimp only)
       (try k_lift B')
       (try k_fold)))
  refine wpAny_call ?_
  walk_at "MY_ENTERC"
  (rename (_ ∧ AllLt _ R) => l1; have hoff1 := allLt_neN 4 l1.2; have hoff2 := allLt_neN 3 l1.2; have hoff3 := allLt_neN 2 l1.2; have hoff4 := allLt_neN 1 l1.2)
  k_steps
  all_goals (try (rename Fr _ _ _ _ => Fz; rename News _ _ _ _ => Nz))
  all_goals first
    | (rename Tag 1 => tg
       have hAFret := @hret
       rename (_ < _ ∧ _ < _ ∧ _ < _ ∧ _ < _ ∧ _ < _ ∧ AllLt _ rest) => l2
       rename (_ < _ ∧ _ < _ ∧ _ < _ ∧ _ < _ ∧ AllLt _ rest) => l1
       simp only [List.push_toArray] at Nz
       exact hAFret _ _ _ _ _ _ _ _ _ _ _ _ _ _ Fz Nz (by
         intro p hp
         simp only [List.mem_cons, List.not_mem_nil, or_false] at hp
         rcases hp with rfl | rfl
         · exact far4 l2.2
         · exact far4 l1) l2.1 (all4 l1))
    | (rename Tag 2 => tg
       have hACret := @hret
       rename (_ < _ ∧ _ < _ ∧ _ < _ ∧ _ < _ ∧ AllLt _ rest) => l1
       simp only [List.push_toArray, rep_zero] at Nz
       exact hACret _ _ _ _ _ _ _ _ Fz Nz (by
         intro p hp
         rw [List.mem_singleton.mp hp]
         exact far4 l1) (all4 l1))
    | (rename Tag 3 => tg
       rename (_ < _ ∧ _ < _ ∧ _ < _ ∧ _ < _ ∧ AllLt _ rest) => l1
       exact finC _ _ _ _ _ _ _ _ _ _ _ [] _ _ _ _ ek rfl (.same rfl rfl rfl) .nil (fun _ h => nomatch h) (far4 l1).1 (far4 l1).2 Fz Nz (by
         (try simp only [List.cons_append, List.nil_append])
         (repeat (refine List.forall_mem_cons.mpr ⟨?yy, ?_⟩; (case yy => (repeat (first | exact List.Mem.head _ | refine List.Mem.tail _ ?_)))))
         exact fun p hp => by (repeat (first | exact hp | refine List.Mem.tail _ ?_))) rfl (by
         intro z h1 h2
         have h3 : kStd.contains z = false := by simp [kStd, h2]
         simp only [kstB, h1, h2, h3, if_false, Bool.false_eq_true]))
    | (rename Tag 4 => tg
       rename (_ < _ ∧ _ < _ ∧ _ < _ ∧ _ < _ ∧ _ < _ ∧ _ < _ ∧ AllLt _ rest) => l1
       exact finC _ _ _ _ _ _ _ _ _ _ _ _ _ _ _ _ ek rfl newT_fd .nil hnew9 (far4 l1.2.2).1 ⟨l1.1, l1.2.1, (far4 l1.2.2).2⟩ Fz Nz (by
         (try simp only [List.cons_append, List.nil_append])
         (repeat (refine List.forall_mem_cons.mpr ⟨?yy, ?_⟩; (case yy => (repeat (first | exact List.Mem.head _ | refine List.Mem.tail _ ?_)))))
         exact fun p hp => by (repeat (first | exact hp | refine List.Mem.tail _ ?_))) rfl (by
         intro z h1 h2
         have h3 : kStd.contains z = false := by simp [kStd, h2]
         simp only [kstB, h1, h2, h3, if_false, Bool.false_eq_true]))
    | (rename Tag 5 => tg
       rename (_ < _ ∧ _ < _ ∧ _ < _ ∧ _ < _ ∧ _ < _ ∧ AllLt _ rest) => l1
       exact finC _ _ _ _ _ _ _ _ _ _ _ _ _ _ _ _ ek rfl newT_ch .nil hnew9 (far4 l1.2).1 ⟨l1.1, (far4 l1.2).2⟩ Fz Nz (by
         (try simp only [List.cons_append, List.nil_append])
         (repeat (refine List.forall_mem_cons.mpr ⟨?yy, ?_⟩; (case yy => (repeat (first | exact List.Mem.head _ | refine List.Mem.tail _ ?_)))))
         exact fun p hp => by (repeat (first | exact hp | refine List.Mem.tail _ ?_))) rfl (by
         intro z h1 h2
         have h3 : kStd.contains z = false := by simp [kStd, h2]
         simp only [kstB, h1, h2, h3, if_false, Bool.false_eq_true]))
    | (rename Tag 6 => tg
       exact finB _ _ _ _ _ _ _ _ _ _ _ _ _ _ ek rfl newT_ch .nil hnew9 Fz Nz (by
         (try simp only [List.cons_append, List.nil_append])
         (repeat (refine List.forall_mem_cons.mpr ⟨?yy, ?_⟩; (case yy => (repeat (first | exact List.Mem.head _ | refine List.Mem.tail _ ?_)))))
         exact fun p hp => by (repeat (first | exact hp | refine List.Mem.tail _ ?_))) rfl (by
         intro z h1 h2
         have h3 : kStd.contains z = false := by simp [kStd, h2]
         simp only [kstB, h1, h2, h3, if_false, Bool.false_eq_true]))
    | (rename Tag 7 => tg
       exact finB _ _ _ _ _ _ _ _ _ [] _ _ _ _ ek rfl (.same rfl rfl rfl) .nil (fun _ h => nomatch h) Fz Nz (by
         (try simp only [List.cons_append, List.nil_append])
         (repeat (refine List.forall_mem_cons.mpr ⟨?yy, ?_⟩; (case yy => (repeat (first | exact List.Mem.head _ | refine List.Mem.tail _ ?_)))))
         exact fun p hp => by (repeat (first | exact hp | refine List.Mem.tail _ ?_))) rfl (by
         intro z h1 h2
         have h3 : kStd.contains z = false := by simp [kStd, h2]
         simp only [kstB, h1, h2, h3, if_false, Bool.false_eq_true]))
    | (rename Tag 8 => tg
       exact finB _ _ _ _ _ _ _ _ _ _ _ _ _ _ ek rfl newT_fd .nil hnew9 Fz Nz (by
         (try simp only [List.cons_append, List.nil_append])
         (repeat (refine List.forall_mem_cons.mpr ⟨?yy, ?_⟩; (case yy => (repeat (first | exact List.Mem.head _ | refine List.Mem.tail _ ?_)))))
         exact fun p hp => by (repeat (first | exact hp | refine List.Mem.tail _ ?_))) rfl (by
         intro z h1 h2
         have h3 : kStd.contains z = false := by simp [kStd, h2]
         simp only [kstB, h1, h2, h3, if_false, Bool.false_eq_true]))
    | (rename Tag 9 => tg
       exact finB _ _ _ _ _ _ _ _ _ [] _ _ _ _ ek rfl (.same rfl rfl rfl) .nil (fun _ h => nomatch h) Fz Nz (by
         (try simp only [List.cons_append, List.nil_append])
         (repeat (refine List.forall_mem_cons.mpr ⟨?yy, ?_⟩; (case yy => (repeat (first | exact List.Mem.head _ | refine List.Mem.tail _ ?_)))))
         exact fun p hp => by (repeat (first | exact hp | refine List.Mem.tail _ ?_))) rfl (by
         intro z h1 h2
         have h3 : kStd.contains z = false := by simp [kStd, h2]
         simp only [kstB, h1, h2, h3, if_false, Bool.false_eq_true]))
    | (rename Tag 10 => tg
       (try simp only [List.push_toArray, List.append_toArray, List.toList_toArray] at Nz)
       exact finB _ _ _ _ _ _ _ _ _ _ _ _ _ _ ek rfl newT_fd (.cons (.str _ _) .nil) hnew9 Fz Nz (by
         (try simp only [List.cons_append, List.nil_append])
         (repeat (refine List.forall_mem_cons.mpr ⟨?yy, ?_⟩; (case yy => (repeat (first | exact List.Mem.head _ | refine List.Mem.tail _ ?_)))))
         exact fun p hp => by (repeat (first | exact hp | refine List.Mem.tail _ ?_))) rfl (by
         intro z h1 h2
         have h3 : kStd.contains z = false := by simp [kStd, h2]
         simp only [kstB, h1, h2, h3, if_false, Bool.false_eq_true]))
    | (rename Tag 11 => tg
       (try simp only [List.push_toArray, List.append_toArray, List.toList_toArray] at Nz)
       exact finB _ _ _ _ _ _ _ _ _ [] _ _ _ _ ek rfl (.same rfl rfl rfl) (sgn_snoc hcd) (fun _ h => nomatch h) Fz Nz (by
         (try simp only [List.cons_append, List.nil_append])
         (repeat (refine List.forall_mem_cons.mpr ⟨?yy, ?_⟩; (case yy => (repeat (first | exact List.Mem.head _ | refine List.Mem.tail _ ?_)))))
         exact fun p hp => by (repeat (first | exact hp | refine List.Mem.tail _ ?_))) rfl (by
         intro z h1 h2
         have h3 : kStd.contains z = false := by simp [kStd, h2]
         simp only [kstB, h1, h2, h3, if_false, Bool.false_eq_true]))
    | (rename Tag 12 => tg
       (try simp only [List.push_toArray, List.append_toArray, List.toList_toArray] at Nz)
       exact finB _ _ _ _ _ _ _ _ _ [] _ _ _ _ ek rfl (.same rfl rfl rfl) hcd (fun _ h => nomatch h) Fz Nz (by
         (try simp only [List.cons_append, List.nil_append])
         (repeat (refine List.forall_mem_cons.mpr ⟨?yy, ?_⟩; (case yy => (repeat (first | exact List.Mem.head _ | refine List.Mem.tail _ ?_)))))
         exact fun p hp => by (repeat (first | exact hp | refine List.Mem.tail _ ?_))) rfl (by
         intro z h1 h2
         have h3 : kStd.contains z = false := by simp [kStd, h2]
         simp only [kstB, h1, h2, h3, if_false, Bool.false_eq_true]))
    | (rename Tag 13 => tg
       (try simp only [List.push_toArray, List.append_toArray, List.toList_toArray] at Nz)
       exact finB _ _ _ _ _ _ _ _ _ [] _ _ _ _ ek rfl (.same rfl rfl rfl) (sgn_app hcd (hqd _ rfl)) (fun _ h => nomatch h) Fz Nz (by
         (try simp only [List.cons_append, List.nil_append])
         (repeat (refine List.forall_mem_cons.mpr ⟨?yy, ?_⟩; (case yy => (repeat (first | exact List.Mem.head _ | refine List.Mem.tail _ ?_)))))
         exact fun p hp => by (repeat (first | exact hp | refine List.Mem.tail _ ?_))) rfl (by
         intro z h1 h2
         have h3 : kStd.contains z = false := by simp [kStd, h2]
         simp only [kstB, h1, h2, h3, if_false, Bool.false_eq_true]))
    | (rename Tag 14 => tg
       simp only [List.push_toArray] at Nz
       exact finA _ _ _ _ _ _ _ _ _ _ _ _ _ _ ek rfl rfl rfl (fun h => nomatch h) (sgn_snoc (hqd _ rfl)) Fz Nz (by
         (try simp only [List.cons_append, List.nil_append])
         (repeat (refine List.forall_mem_cons.mpr ⟨?yy, ?_⟩; (case yy => (repeat (first | exact List.Mem.head _ | refine List.Mem.tail _ ?_)))))
         exact fun p hp => by (repeat (first | exact hp | refine List.Mem.tail _ ?_))) rfl (by
         intro z h1 h2
         have h3 : kStd.contains z = false := by simp [kStd, h2]
         simp only [kstB, h1, h2, h3, if_false, Bool.false_eq_true]))
    | (rename Tag 15 => tg
       have etok : tokR x = _ := (congrArg kEnd ek).symm.trans hkend
       obtain ⟨R', a1, a2, a3, a0, a4, a5, a6⟩ := tok_ret erest Nz (by
         (try simp only [List.cons_append, List.nil_append])
         (repeat (refine List.forall_mem_cons.mpr ⟨?yy, ?_⟩; (case yy => (repeat (first | exact List.Mem.head _ | refine List.Mem.tail _ ?_)))))
         exact fun p hp => by (repeat (first | exact hp | refine List.Mem.tail _ ?_))) (fun p hp => (hnew9 p hp).2) (newT_fd.dat hrd) hnp h97 hc97 hd97 (Nat.ne_of_gt (by omega)) hkr hd1 hv1 hd2 hv2 rfl rfl rfl
       exact ret _ _ _ _ R' _ _ a1 a2 a3 a0 a4 (by rw [etok]; exact a5) Fz a6)
    | (rename Tag 16 => tg
       have etok : tokR x = _ := (congrArg kEnd ek).symm.trans hkend
       obtain ⟨R', a1, a2, a3, a0, a4, a5, a6⟩ := tok_ret erest Nz (by
         (try simp only [List.cons_append, List.nil_append])
         (repeat (refine List.forall_mem_cons.mpr ⟨?yy, ?_⟩; (case yy => (repeat (first | exact List.Mem.head _ | refine List.Mem.tail _ ?_)))))
         exact fun p hp => by (repeat (first | exact hp | refine List.Mem.tail _ ?_))) (fun p hp => (hnew9 p hp).2) (newT_ch.dat hrd) hnp h97 hc97 hd97 (Nat.ne_of_gt (by omega)) hkr hd1 hv1 hd2 hv2 rfl rfl rfl
       exact ret _ _ _ _ R' _ _ a1 a2 a3 a0 a4 (by rw [etok]; exact a5) Fz a6)
    | (rename Tag 17 => tg
       have etok : tokR x = _ := (congrArg kEnd ek).symm.trans hkend
       obtain ⟨R', a1, a2, a3, a0, a4, a5, a6⟩ := tok_ret (new := []) (lr := _) (vs := rv) erest Nz (by
         (try simp only [List.cons_append, List.nil_append])
         (repeat (refine List.forall_mem_cons.mpr ⟨?yy, ?_⟩; (case yy => (repeat (first | exact List.Mem.head _ | refine List.Mem.tail _ ?_)))))
         exact fun p hp => by (repeat (first | exact hp | refine List.Mem.tail _ ?_))) (fun _ h => nomatch h) hrd hnp h97 hc97 hd97 (Nat.ne_of_gt (by omega)) hkr hd1 hv1 hd2 hv2 rfl rfl rfl
       exact ret _ _ _ _ R' _ _ a1 a2 a3 a0 a4 (by rw [etok]; exact a5) Fz a6)

end
end Mine

-- MPlain
namespace Mine
set_option maxRecDepth 100000
set_option maxHeartbeats 8000000
/-- the tokens of a list, the newest first, taken together -/
noncomputable def tld : List Tk → List Tk
  | [] => []
  | t :: r => toldStep (tld r) t
theorem told_rev (r : List Tk) : told r.reverse = tld r := by
  induction r with
  | nil => rfl
  | cons t r ih => unfold told at ih ⊢; rw [List.reverse_cons, List.foldl_append, ih]; rfl
theorem addR_addR (x y : List Nat) (r : List Tk) : addR y (addR x r) = addR (x ++ y) r := by
  cases r with
  | nil => rfl
  | cons t r => cases t <;> simp [addR]
/-- what a machine's state says to a reader -/
noncomputable def vw (k : KA) : List Tk :=
  match k.fd with
  | some (c, n) => .fd c n :: tld k.res
  | none => if k.cb ++ k.qb.getD [] = [] then tld k.res else addR (unq (k.cb ++ k.qb.getD [])) (tld k.res)
structure KJ (k : KA) : Prop where
  a : k.fd = none ∨ k.cb = []
  b : k.qb ≠ none → k.fd = none ∧ k.cb = []
  c : k.fd = none → k.cb = [] → k.qb = none → k.res = []
theorem unq_app (x y : List Nat) : unq (x ++ y) = unq x ++ unq y := by simp [unq]
theorem unq_one {d : Nat} (h : d ≠ 0) : unq [d] = [d] := by simp [unq, h]
theorem addR_ne_nil (x : List Nat) (r : List Tk) : addR x r ≠ [] := by
  cases r with
  | nil => simp [addR]
  | cons t r => cases t <;> simp [addR]
/-- a sign of a text -/
theorem vw_text {k : KA} {d : Nat} (J : KJ k) (h : d ≠ 39) (hp : k.qb ≠ none ∨ isPC d = false) : KJ (kStep k d) ∧ vw (kStep k d) = addR (unq [d]) (vw k) ∧ (kStep k d).qb.isSome = k.qb.isSome ∧ (kStep k d).qb ≠ some [] := by
  obtain ⟨res, cb, fd, qb⟩ := k
  obtain ⟨ja, jb, jc⟩ := J
  dsimp only at ja jb jc hp
  cases qb with
  | none =>
    have hp2 : isPC d = false := by rcases hp with h | h; · exact absurd rfl h
                                    · exact h
    have e : kStep ⟨res, cb, fd, none⟩ d = ⟨kF res fd, cb ++ [d], none, none⟩ := by simp [kStep, h, hp2]
    rw [e]
    refine ⟨⟨.inl rfl, fun h => absurd rfl h, fun _ h => by simp at h⟩, ?_, rfl, by simp⟩
    cases fd with
    | some p =>
      have hcb : cb = [] := by rcases ja with h | h; · cases h
                               · exact h
      subst hcb
      simp [vw, kF, tld, toldStep]
    | none =>
      simp only [vw, kF, Option.getD_none, List.append_nil]
      rw [if_neg (by simp)]
      by_cases hcb : cb = []
      · subst hcb; simp
      · rw [if_neg hcb, addR_addR, unq_app]
  | some q =>
    obtain ⟨rfl, rfl⟩ := jb (by simp)
    have e : kStep ⟨res, [], none, some q⟩ d = ⟨res, [], none, some (q ++ [d])⟩ := by simp [kStep, h]
    rw [e]
    refine ⟨⟨.inl rfl, fun _ => ⟨rfl, rfl⟩, fun _ _ h => by simp at h⟩, ?_, rfl, by simp⟩
    simp only [vw, Option.getD_some, List.nil_append]
    rw [if_neg (by simp)]
    by_cases hcb : q = []
    · subst hcb; simp
    · rw [if_neg hcb, addR_addR, unq_app]
/-- a quote that opens or closes -/
theorem vw_quote {k : KA} (J : KJ k) (hq : k.qb ≠ some []) : KJ (kStep k 39) ∧ vw (kStep k 39) = vw k ∧ (kStep k 39).qb.isSome = !k.qb.isSome := by
  obtain ⟨res, cb, fd, qb⟩ := k
  obtain ⟨ja, jb, jc⟩ := J
  dsimp only at ja jb jc hq
  cases qb with
  | none =>
    have e : kStep ⟨res, cb, fd, none⟩ 39 = ⟨kC (kF res fd) cb, [], none, some []⟩ := by simp [kStep]
    rw [e]
    refine ⟨⟨.inl rfl, fun _ => ⟨rfl, rfl⟩, fun _ _ h => by simp at h⟩, ?_, rfl⟩
    cases fd with
    | some p =>
      have hcb : cb = [] := by rcases ja with h | h; · cases h
                               · exact h
      subst hcb
      simp [vw, kF, kC, tld, toldStep]
    | none =>
      by_cases hcb : cb = []
      · subst hcb; simp [vw, kF, kC]
      · simp [vw, kF, kC, hcb, tld, toldStep]
  | some q =>
    obtain ⟨rfl, rfl⟩ := jb (by simp)
    have hq2 : q ≠ [] := fun e => hq (by rw [e])
    have e : kStep ⟨res, [], none, some q⟩ 39 = ⟨res, q, none, none⟩ := by simp [kStep]
    rw [e]
    refine ⟨⟨.inl rfl, fun h => absurd rfl h, fun _ h => absurd h hq2⟩, ?_, rfl⟩
    simp [vw]
theorem vw_field {k : KA} {d : Nat} (J : KJ k) (h : d ≠ 39) (hp : isPC d = true) (hq : k.qb = none) : KJ (kStep k d) ∧ vw (kStep k d) = incF d (vw k) ∧ (kStep k d).qb = none := by
  obtain ⟨res, cb, fd, qb⟩ := k
  obtain ⟨ja, jb, jc⟩ := J
  dsimp only at ja jb jc hq
  subst hq
  have e : kStep ⟨res, cb, fd, none⟩ d = ⟨(kInc (kC res cb) d fd).1, [], some (kInc (kC res cb) d fd).2, none⟩ := by simp [kStep, h, hp]
  rw [e]
  refine ⟨⟨.inr rfl, fun h => absurd rfl h, fun h => by simp at h⟩, ?_, rfl⟩
  cases fd with
  | some p =>
    have hcb : cb = [] := by rcases ja with h | h; · cases h
                             · exact h
    subst hcb
    obtain ⟨c, n⟩ := p
    by_cases hcd : c = d
    · subst hcd; simp [vw, kInc, kC, incF]
    · simp [vw, kInc, kC, incF, hcd, tld, toldStep]
  | none =>
    by_cases hcb : cb = []
    · subst hcb
      have hr : res = [] := jc rfl rfl rfl
      subst hr
      simp [vw, kInc, kC, incF, tld]
    · have e2 : vw ⟨res, cb, none, none⟩ = addR (unq cb) (tld res) := by simp [vw, hcb]
      rw [e2]
      have e3 : vw ⟨(kInc (kC res cb) d none).1, [], some (kInc (kC res cb) d none).2, none⟩ = .fd d 1 :: addR (unq cb) (tld res) := by simp [vw, kInc, kC, hcb, tld, toldStep]
      rw [e3]
      generalize tld res = r
      cases r with
      | nil => rfl
      | cons t r => cases t <;> simp [addR, incF]
/-- the signs that a pattern is made of -/
noncomputable def okSign (c : Nat) : Bool := [121, 77, 100, 69, 99, 72, 79, 70, 83, 39, 37, 45, 32, 58, 116, 111, 84].contains c
theorem okSign_cases {c : Nat} (h : okSign c = true) : c ≠ 0 ∧ isPC c = isF c := by
  have h2 : c ∈ [121, 77, 100, 69, 99, 72, 79, 70, 83, 39, 37, 45, 32, 58, 116, 111, 84] := List.contains_iff_mem.mp h
  have : ∀ c ∈ [121, 77, 100, 69, 99, 72, 79, 70, 83, 39, 37, 45, 32, 58, 116, 111, 84], c ≠ 0 ∧ isPC c = isF c := by decide
  exact this c h2
theorem reads_run : ∀ (n : Nat) (l : List Nat), l.length ≤ n → (∀ c ∈ l, okSign c = true) → ∀ (k : KA), KJ k → (k.qb = some [] → l.head? ≠ some 39) →
    KJ ((repL [39, 39] [0] l).foldl kStep k) ∧ readR l k.qb.isSome (vw k) = (vw ((repL [39, 39] [0] l).foldl kStep k), ((repL [39, 39] [0] l).foldl kStep k).qb.isSome) := by
  intro n
  induction n with
  | zero =>
    intro l hl _ k J _
    cases l with
    | nil => rw [repL_nil, readR]; exact ⟨J, rfl⟩
    | cons => simp at hl
  | succ n ih =>
    intro l hl ha k J hq
    cases l with
    | nil => rw [repL_nil, readR]; exact ⟨J, rfl⟩
    | cons c l =>
      rw [List.length_cons] at hl
      obtain ⟨hc0, hcp⟩ := okSign_cases (ha c (.head _))
      by_cases h39 : c = 39
      · subst h39
        have hqn : k.qb ≠ some [] := fun e => hq e rfl
        by_cases hh : l.head? = some 39
        · obtain ⟨l', rfl⟩ : ∃ l', l = 39 :: l' := by
            cases l with
            | nil => simp at hh
            | cons d l' => simp at hh; exact ⟨l', by rw [hh]⟩
          have e : repL [39, 39] [0] (39 :: 39 :: l') = 0 :: repL [39, 39] [0] l' := by rw [repL_cons]; simp [List.isPrefixOf]
          rw [e, List.foldl_cons, readR_qq]
          obtain ⟨j1, j2, j3, j4⟩ := vw_text (d := 0) J (by decide) (.inr rfl)
          have := ih l' (by simp at hl; omega) (fun c hc => ha c (.tail _ (.tail _ hc))) _ j1 (fun e => absurd e j4)
          rw [j3, j2] at this
          exact this
        · have e : repL [39, 39] [0] (39 :: l) = 39 :: repL [39, 39] [0] l := by
            rw [repL_cons, if_neg]
            cases l with
            | nil => simp [List.isPrefixOf]
            | cons d l' => simp at hh; simp [List.isPrefixOf]; exact fun e => hh e.symm
          rw [e, List.foldl_cons, readR_q hh]
          obtain ⟨j1, j2, j3⟩ := vw_quote J hqn
          have := ih l (by omega) (fun c hc => ha c (.tail _ hc)) _ j1 (fun _ => hh)
          rw [j3, j2] at this
          exact this
      · have e : repL [39, 39] [0] (c :: l) = c :: repL [39, 39] [0] l := by
          rw [repL_cons, if_neg]
          simp [List.isPrefixOf]
          exact fun e => absurd e.symm h39
        rw [e, List.foldl_cons]
        by_cases hi : (k.qb.isSome || !isF c) = true
        · rw [readR_t h39 hi]
          obtain ⟨j1, j2, j3, j4⟩ := vw_text (d := c) J h39 (by
            rw [Bool.or_eq_true] at hi
            rcases hi with h | h
            · left; intro e; rw [e] at h; cases h
            · right; rw [hcp]; simpa using h)
          have := ih l (by omega) (fun c hc => ha c (.tail _ hc)) _ j1 (fun e => absurd e j4)
          rw [j3, j2, unq_one hc0] at this
          exact this
        · have hi2 : (k.qb.isSome || !isF c) = false := by simpa using hi
          rw [readR_f h39 hi2]
          rw [Bool.or_eq_false_iff] at hi2
          have hqn : k.qb = none := by cases hk : k.qb with
            | none => rfl
            | some q => rw [hk] at hi2; simp at hi2
          obtain ⟨j1, j2, j3⟩ := vw_field (d := c) J h39 (by rw [hcp]; simpa using hi2.2) hqn
          have := ih l (by omega) (fun c hc => ha c (.tail _ hc)) _ j1 (fun e => by rw [j3] at e; cases e)
          rw [j3, j2] at this
          rw [hqn]
          exact this
/-- THE LAW: the tokens, taken together, are the reader's -/
theorem told_tok {x : List Nat} {r : List Tk} (ha : ∀ c ∈ x, okSign c = true) (h : readR x false [] = (r, false)) : told (tokR x).reverse = r := by
  have h1 := reads_run x.length x (Nat.le_refl _) ha kInit ⟨.inl rfl, fun h => absurd rfl h, fun _ _ _ => rfl⟩ (fun h => by cases h)
  have e0 : vw kInit = [] := by simp [vw, kInit, tld]
  have e1 : kInit.qb.isSome = false := rfl
  rw [e0, e1, h] at h1
  obtain ⟨J, h2⟩ := h1
  rw [told_rev]
  unfold tokR kRun
  generalize (repL [39, 39] [0] x).foldl kStep kInit = k at J h2
  obtain ⟨res, cb, fd, qb⟩ := k
  have h3 : r = vw ⟨res, cb, fd, qb⟩ := congrArg Prod.fst h2
  have h4 : qb = none := by
    have := congrArg Prod.snd h2
    cases qb with
    | none => rfl
    | some q => simp at this
  subst h4
  rw [h3]
  cases fd with
  | some p =>
    have hcb : cb = [] := by rcases J.a with h | h; · cases h
                             · exact h
    subst hcb
    simp [kEnd, kF, kC, vw, tld, toldStep]
  | none =>
    by_cases hcb : cb = []
    · subst hcb; simp [kEnd, kF, kC, vw]
    · simp [kEnd, kF, kC, vw, hcb, tld, toldStep]
end Mine

-- MPlain2
namespace Mine
set_option maxRecDepth 100000
set_option maxHeartbeats 8000000
/-- the lengths of a field's letter; none: any -/
noncomputable def lens (c : Nat) : List Nat :=
  if c = 77 then [1, 2, 3, 4, 5] else if c = 100 then [1, 2] else if c = 69 then [1, 2, 3, 4, 5, 6] else if c = 99 then [1, 3, 4, 5, 6] else if c = 72 then [1, 2] else if c = 79 then [1, 4] else if c = 70 then [1] else []
noncomputable def okT : Tk → Bool
  | .ch _ => true
  | .fd c n => (lens c).isEmpty || (lens c).contains n
noncomputable def sound (r : List Tk) : Bool := r.all okT
theorem sound_addR (x : List Nat) (r : List Tk) : sound (addR x r) = sound r := by
  cases r with
  | nil => rfl
  | cons t r => cases t <;> simp [addR, sound, okT]
theorem sound_tld (r : List Tk) : sound (tld r) = sound r := by
  induction r with
  | nil => rfl
  | cons t r ih =>
    cases t with
    | ch x => show sound (addR x (tld r)) = _; rw [sound_addR, ih]; simp [sound, okT]
    | fd c n => show sound (.fd c n :: tld r) = _; unfold sound at ih ⊢; rw [List.all_cons, List.all_cons, ih]
theorem sound_rev (r : List Tk) : sound r.reverse = sound r := by simp [sound]
theorem sound_told (ts : List Tk) : sound (told ts) = sound ts := by
  have h := told_rev ts.reverse
  rw [List.reverse_reverse] at h
  rw [h, sound_tld, sound_rev]
/-- letters of all tokens -/
noncomputable def okTk : Tk → Prop
  | .ch x => x ≠ [] ∧ ∀ c ∈ x, okSign c = true
  | .fd c n => 1 ≤ n ∧ isF c = true ∧ okSign c = true
noncomputable def apart : Tk → List Tk → Prop
  | .ch _, .ch _ :: _ => False
  | .fd c _, .fd d _ :: _ => d ≠ c
  | _, _ => True
noncomputable def nrm : List Tk → Prop
  | [] => True
  | t :: r => okTk t ∧ apart t r ∧ nrm r
theorem nrm_addR {c : Nat} {r : List Tk} (hc : okSign c = true) (h : nrm r) : nrm (addR [c] r) := by
  cases r with
  | nil => exact ⟨⟨by simp, by simpa using hc⟩, trivial, trivial⟩
  | cons t r =>
    cases t with
    | ch y =>
      obtain ⟨⟨h1, h2⟩, h3, h4⟩ := h
      refine ⟨⟨by simp, ?_⟩, ?_, h4⟩
      · intro d hd
        rcases List.mem_append.mp hd with hd | hd
        · exact h2 d hd
        · rw [List.mem_singleton.mp hd]; exact hc
      · cases r with
        | nil => trivial
        | cons t r => cases t <;> exact h3
    | fd d n => exact ⟨⟨by simp, by simpa using hc⟩, trivial, h⟩
theorem nrm_incF {c : Nat} {r : List Tk} (hc : okSign c = true) (hf : isF c = true) (h : nrm r) : nrm (incF c r) := by
  cases r with
  | nil => exact ⟨⟨Nat.le_refl _, hf, hc⟩, trivial, trivial⟩
  | cons t r =>
    cases t with
    | ch y => exact ⟨⟨Nat.le_refl _, hf, hc⟩, trivial, h⟩
    | fd d n =>
      unfold incF
      dsimp only
      split
      · rename_i e
        subst e
        obtain ⟨⟨h1, h2⟩, h3, h4⟩ := h
        refine ⟨⟨by omega, h2⟩, ?_, h4⟩
        cases r with
        | nil => trivial
        | cons t r => cases t <;> exact h3
      · rename_i e
        exact ⟨⟨Nat.le_refl _, hf, hc⟩, e, h⟩
theorem readR_nrm : ∀ (n : Nat) (l : List Nat), l.length ≤ n → (∀ c ∈ l, okSign c = true) → ∀ (ins : Bool) (r : List Tk), nrm r → nrm (readR l ins r).1 := by
  intro n
  induction n with
  | zero =>
    intro l hl _ ins r h
    cases l with
    | nil => rw [readR]; exact h
    | cons => simp at hl
  | succ n ih =>
    intro l hl ha ins r h
    cases l with
    | nil => rw [readR]; exact h
    | cons c l =>
      rw [List.length_cons] at hl
      have hc := ha c (.head _)
      have hl2 : ∀ c ∈ l, okSign c = true := fun c h => ha c (.tail _ h)
      by_cases h39 : c = 39
      · subst h39
        by_cases hh : l.head? = some 39
        · cases l with
          | nil => simp at hh
          | cons d l' =>
            simp at hh; subst hh
            rw [readR_qq]
            exact ih l' (by simp at hl; omega) (fun c h => hl2 c (.tail _ h)) _ _ (nrm_addR hc h)
        · rw [readR_q hh]; exact ih l (by omega) hl2 _ _ h
      · by_cases hi : (ins || !isF c) = true
        · rw [readR_t h39 hi]; exact ih l (by omega) hl2 _ _ (nrm_addR hc h)
        · have hi2 : (ins || !isF c) = false := by simpa using hi
          rw [readR_f h39 hi2]
          rw [Bool.or_eq_false_iff] at hi2
          exact ih l (by omega) hl2 _ _ (nrm_incF hc (by simpa using hi2.2) h)
theorem readR_szs : ∀ (n : Nat) (l : List Nat), l.length ≤ n → ∀ (ins : Bool) (r : List Tk), szs (readR l ins r).1 ≤ szs r + 2 * l.length := by
  intro n
  induction n with
  | zero =>
    intro l hl ins r
    cases l with
    | nil => rw [readR]; exact Nat.le_add_right _ _
    | cons => simp at hl
  | succ n ih =>
    intro l hl ins r
    cases l with
    | nil => rw [readR]; exact Nat.le_add_right _ _
    | cons c l =>
      rw [List.length_cons] at hl
      have h1 := szs_addR c r
      have h1' := szs_addR 39 r
      have h2 := szs_incF c r
      by_cases h39 : c = 39
      · subst h39
        by_cases hh : l.head? = some 39
        · cases l with
          | nil => simp at hh
          | cons d l' =>
            simp at hh; subst hh
            rw [readR_qq]
            have := ih l' (by simp at hl; omega) ins (addR [39] r)
            simp only [List.length_cons]; omega
        · rw [readR_q hh]
          have := ih l (by omega) (!ins) r
          simp only [List.length_cons]; omega
      · by_cases hi : (ins || !isF c) = true
        · rw [readR_t h39 hi]
          have := ih l (by omega) ins (addR [c] r)
          simp only [List.length_cons]; omega
        · have hi2 : (ins || !isF c) = false := by simpa using hi
          rw [readR_f h39 hi2]
          have := ih l (by omega) ins (incF c r)
          simp only [List.length_cons]; omega
/-- a reader that stops and goes on -/
theorem readR_app : ∀ (n : Nat) (l : List Nat), l.length ≤ n → ∀ (ins : Bool) (r : List Tk) (m : List Nat), m.head? ≠ some 39 → readR (l ++ m) ins r = readR m (readR l ins r).2 (readR l ins r).1 := by
  intro n
  induction n with
  | zero =>
    intro l hl ins r m _
    cases l with
    | nil => rw [readR]; rfl
    | cons => simp at hl
  | succ n ih =>
    intro l hl ins r m hm
    cases l with
    | nil => rw [readR]; rfl
    | cons c l =>
      rw [List.length_cons] at hl
      rw [List.cons_append]
      by_cases h39 : c = 39
      · subst h39
        by_cases hh : l.head? = some 39
        · cases l with
          | nil => simp at hh
          | cons d l' =>
            simp at hh; subst hh
            rw [List.cons_append, readR_qq, readR_qq]
            exact ih l' (by simp at hl; omega) _ _ m hm
        · have hh2 : (l ++ m).head? ≠ some 39 := by
            cases l with
            | nil => exact hm
            | cons d l' => simpa using hh
          rw [readR_q hh2, readR_q hh]; exact ih l (by omega) _ _ m hm
      · by_cases hi : (ins || !isF c) = true
        · rw [readR_t h39 hi, readR_t h39 hi]; exact ih l (by omega) _ _ m hm
        · have hi2 : (ins || !isF c) = false := by simpa using hi
          rw [readR_f h39 hi2, readR_f h39 hi2]; exact ih l (by omega) _ _ m hm
/-- a quote left open is closed -/
theorem readR_close {x : List Nat} {r : List Tk} (h : readR x false [] = (r, true)) : readR (x ++ [32, 39]) false [] = (addR [32] r, false) := by
  rw [readR_app x.length x (Nat.le_refl _) false [] [32, 39] (by simp), h]
  rw [readR_t (by decide) (by rfl), readR_q (by simp), readR]
  rfl
/-- a text laid out with its quotes doubled -/
noncomputable def dbl (x : List Nat) : List Nat := x.flatMap fun d => if d = 39 then [39, 39] else [d]
noncomputable def untT : Tk → List Nat
  | .fd c n => List.replicate n c
  | .ch x => if x.any isPC then 39 :: (dbl x ++ [39]) else x
noncomputable def unt (ts : List Tk) : List Nat := ts.flatMap untT
noncomputable def clear (r : List Tk) : Bool := r.all fun t => match t with
  | .ch x => !x.contains 39 || x.any isF
  | .fd _ _ => true
theorem isF_PC {c : Nat} (h : isF c = true) : isPC c = true := by
  have h2 : c ∈ [121, 77, 100, 69, 99, 72, 79, 70, 83] := List.contains_iff_mem.mp h
  have : ∀ c ∈ [121, 77, 100, 69, 99, 72, 79, 70, 83], isPC c = true := by decide
  exact this c h2
theorem isF_39 {c : Nat} (h : isF c = true) : c ≠ 39 := by
  rintro rfl
  exact absurd h (by decide)
theorem read_rep (c : Nat) (hf : isF c = true) : ∀ (m n : Nat) (r : List Tk) (tail : List Nat), readR (List.replicate m c ++ tail) false (.fd c n :: r) = readR tail false (.fd c (n + m) :: r) := by
  intro m
  induction m with
  | zero => intro n r tail; rfl
  | succ m ih =>
    intro n r tail
    rw [List.replicate_succ, List.cons_append, readR_f (isF_39 hf) (by simp [hf])]
    have e : incF c (.fd c n :: r) = .fd c (n + 1) :: r := by simp [incF]
    rw [e, ih]
    have e2 : n + 1 + m = n + (m + 1) := by omega
    rw [e2]
theorem read_raw : ∀ (x : List Nat), (∀ c ∈ x, c ≠ 39 ∧ isF c = false) → ∀ (y : List Nat) (r : List Tk) (tail : List Nat), readR (x ++ tail) false (.ch y :: r) = readR tail false (.ch (y ++ x) :: r) := by
  intro x
  induction x with
  | nil => intro _ y r tail; simp
  | cons c l ih =>
    intro h y r tail
    have hc := h c (.head _)
    rw [List.cons_append, readR_t hc.1 (by simp [hc.2])]
    have e : addR [c] (.ch y :: r) = .ch (y ++ [c]) :: r := rfl
    rw [e, ih fun c h2 => h c (.tail _ h2)]
    simp
theorem dbl_cons (c : Nat) (l : List Nat) : dbl (c :: l) = (if c = 39 then [39, 39] else [c]) ++ dbl l := by simp [dbl]
theorem read_dbl : ∀ (y : List Nat) (z : List Nat) (r : List Tk) (tail : List Nat), readR (dbl y ++ tail) true (.ch z :: r) = readR tail true (.ch (z ++ y) :: r) := by
  intro y
  induction y with
  | nil => intro z r tail; simp [dbl]
  | cons c l ih =>
    intro z r tail
    rw [dbl_cons]
    by_cases h : c = 39
    · subst h
      rw [if_pos rfl]
      show readR (39 :: 39 :: (dbl l ++ tail)) true _ = _
      rw [readR_qq]
      have e : addR [39] (.ch z :: r) = .ch (z ++ [39]) :: r := rfl
      rw [e, ih]; simp
    · rw [if_neg h]
      show readR (c :: (dbl l ++ tail)) true _ = _
      rw [readR_t h (by rfl)]
      have e : addR [c] (.ch z :: r) = .ch (z ++ [c]) :: r := rfl
      rw [e, ih]; simp
theorem addR_eq (x : List Nat) (r : List Tk) : ∃ z r', ∀ y, addR (x ++ y) r = .ch (z ++ y) :: r' := by
  cases r with
  | nil => exact ⟨x, [], fun y => rfl⟩
  | cons t r =>
    cases t with
    | ch w => exact ⟨w ++ x, r, fun y => by simp [addR]⟩
    | fd c n => exact ⟨x, .fd c n :: r, fun y => rfl⟩
theorem read_dbl' (y x : List Nat) (r : List Tk) (tail : List Nat) : readR (dbl y ++ tail) true (addR x r) = readR tail true (addR (x ++ y) r) := by
  obtain ⟨z, r', h⟩ := addR_eq x r
  have h0 := h []
  rw [List.append_nil, List.append_nil] at h0
  rw [h0, h y, read_dbl]
theorem read_quoted : ∀ (x : List Nat), (∃ c ∈ x, c ≠ 39) → ∀ (r : List Tk) (tail : List Nat), readR (39 :: (dbl x ++ tail)) false r = readR tail true (addR x r) := by
  intro x
  induction x with
  | nil => rintro ⟨c, hc, _⟩; cases hc
  | cons c l ih =>
    rintro ⟨d, hd, hd9⟩ r tail
    rw [dbl_cons]
    by_cases h : c = 39
    · subst h
      rw [if_pos rfl]
      show readR (39 :: 39 :: 39 :: (dbl l ++ tail)) false _ = _
      have hl : ∃ c ∈ l, c ≠ 39 := by
        rcases List.mem_cons.mp hd with e | hd
        · exact absurd e hd9
        · exact ⟨d, hd, hd9⟩
      rw [readR_qq, ih hl, addR_addR]; rfl
    · rw [if_neg h]
      show readR (39 :: c :: (dbl l ++ tail)) false _ = _
      rw [readR_q (by simpa using h), readR_t h (by rfl), Bool.not_false, read_dbl']; rfl
theorem untT_read {t : Tk} {r : List Tk} {tail : List Nat} (ht : okTk t) (ha : apart t r) (hc : clear [t] = true) (htl : (∃ x, t = .ch x) → tail.head? ≠ some 39) : readR (untT t ++ tail) false r = readR tail false (t :: r) := by
  cases t with
  | fd c n =>
    obtain ⟨h1, h2, h3⟩ := ht
    obtain ⟨m, rfl⟩ : ∃ m, n = m + 1 := ⟨n - 1, by omega⟩
    show readR (List.replicate (m + 1) c ++ tail) false r = _
    rw [List.replicate_succ, List.cons_append, readR_f (isF_39 h2) (by simp [h2])]
    have e : incF c r = .fd c 1 :: r := by
      cases r with
      | nil => rfl
      | cons t r =>
        cases t with
        | ch y => rfl
        | fd d k => simp only [incF]; rw [if_neg ha]
    rw [e, read_rep c h2, Nat.add_comm]
  | ch x =>
    obtain ⟨h1, h2⟩ := ht
    have hadd : addR x r = .ch x :: r := by
      cases r with
      | nil => rfl
      | cons t r => cases t with
        | ch y => exact absurd ha id
        | fd d k => rfl
    show readR ((if x.any isPC then 39 :: (dbl x ++ [39]) else x) ++ tail) false r = _
    by_cases hp : x.any isPC = true
    · rw [if_pos hp]
      have hx : ∃ c ∈ x, c ≠ 39 := by
        obtain ⟨c, hc, hc2⟩ := List.any_eq_true.mp hp
        refine ⟨c, hc, fun e => ?_⟩
        subst e
        exact absurd hc2 (by decide)
      rw [List.cons_append, List.append_assoc, read_quoted x hx]
      show readR (39 :: tail) true _ = _
      rw [readR_q (htl ⟨x, rfl⟩), hadd]; rfl
    · rw [if_neg hp]
      have hp2 : ∀ c ∈ x, isPC c = false := by
        intro c hc
        cases h : isPC c with
        | false => rfl
        | true => exact absurd (List.any_eq_true.mpr ⟨c, hc, h⟩) hp
      have hF : ∀ c ∈ x, isF c = false := by
        intro c hc
        cases h : isF c with
        | false => rfl
        | true => exact absurd (isF_PC h) (by rw [hp2 c hc]; simp)
      have h39 : ∀ c ∈ x, c ≠ 39 := by
        rintro c hx rfl
        simp only [clear, List.all_cons, List.all_nil, Bool.and_true, Bool.or_eq_true, Bool.not_eq_true'] at hc
        rcases hc with h | h
        · rw [List.contains_iff_mem.mpr hx] at h; cases h
        · obtain ⟨d, hd, hd2⟩ := List.any_eq_true.mp h
          rw [hF d hd] at hd2; cases hd2
      cases x with
      | nil => exact absurd rfl h1
      | cons c l =>
        have hc1 := h39 c (.head _)
        rw [List.cons_append, readR_t hc1 (by simp [hF c (.head _)])]
        have e : addR [c] r = .ch [c] :: r := by
          cases r with
          | nil => rfl
          | cons t r => cases t with
            | ch y => exact absurd ha id
            | fd d k => rfl
        rw [e, read_raw l (fun d hd => ⟨h39 d (.tail _ hd), hF d (.tail _ hd)⟩)]
        rfl
theorem unt_head {c n : Nat} (h : 1 ≤ n) (tail : List Nat) : (untT (.fd c n) ++ tail).head? = some c := by
  obtain ⟨m, rfl⟩ : ∃ m, n = m + 1 := ⟨n - 1, by omega⟩
  rfl
theorem unt_read : ∀ (r : List Tk), nrm r → clear r = true → ∀ (tail : List Nat), ((∃ x r', r = .ch x :: r') → tail.head? ≠ some 39) → readR (unt r.reverse ++ tail) false [] = readR tail false r := by
  intro r
  induction r with
  | nil => intro _ _ tail _; rfl
  | cons t r ih =>
    intro h hc tail ht
    obtain ⟨h1, h2, h3⟩ := h
    have hc1 : clear [t] = true := by
      unfold clear at hc ⊢
      rw [List.all_cons, Bool.and_eq_true] at hc
      rw [List.all_cons, hc.1]; rfl
    have hc2 : clear r = true := by
      unfold clear at hc ⊢
      rw [List.all_cons, Bool.and_eq_true] at hc
      exact hc.2
    have e : unt (t :: r).reverse ++ tail = unt r.reverse ++ (untT t ++ tail) := by
      unfold unt
      rw [List.reverse_cons, List.flatMap_append, List.append_assoc]
      simp
    rw [e, ih h3 hc2 _ ?_]
    · exact untT_read h1 h2 hc1 fun ⟨x, e⟩ => ht ⟨x, r, by rw [e]⟩
    · rintro ⟨x, r', rfl⟩
      cases t with
      | ch y => exact absurd h2 id
      | fd c n =>
        rw [unt_head h1.1]
        intro e
        exact isF_39 h1.2.1 (Option.some.inj e)
/-- laid out anew, the reader reads the same -/
theorem unt_reads {r : List Tk} (h : nrm r) (hc : clear r = true) : readR (unt r.reverse) false [] = (r, false) := by
  have := unt_read r h hc [] (fun _ => by simp)
  rw [List.append_nil] at this
  rw [this, readR]
theorem dbl_ok {x : List Nat} (h : ∀ c ∈ x, okSign c = true) : ∀ c ∈ dbl x, okSign c = true := by
  intro c hc
  obtain ⟨d, hd, hc⟩ := List.mem_flatMap.mp hc
  split at hc
  · simp only [List.mem_cons, List.not_mem_nil, or_false, or_self] at hc; subst hc; decide
  · rw [List.mem_singleton.mp hc]; exact h d hd
theorem untT_ok {t : Tk} (h : okTk t) : ∀ c ∈ untT t, okSign c = true := by
  intro c hc
  cases t with
  | fd d n => rw [List.eq_of_mem_replicate (show c ∈ List.replicate n d from hc)]; exact h.2.2
  | ch x =>
    have hc : c ∈ (if x.any isPC then 39 :: (dbl x ++ [39]) else x) := hc
    split at hc
    · rcases List.mem_cons.mp hc with rfl | hc
      · decide
      · rcases List.mem_append.mp hc with hc | hc
        · exact dbl_ok h.2 c hc
        · rw [List.mem_singleton.mp hc]; decide
    · exact h.2 c hc
theorem nrm_all {r : List Tk} (h : nrm r) : ∀ t ∈ r, okTk t := by
  induction r with
  | nil => intro t h; cases h
  | cons t r ih =>
    intro t' ht
    rcases List.mem_cons.mp ht with rfl | ht
    · exact h.1
    · exact ih h.2.2 t' ht
theorem unt_ok {r : List Tk} (h : nrm r) : ∀ c ∈ unt r.reverse, okSign c = true := by
  intro c hc
  obtain ⟨t, ht, hc⟩ := List.mem_flatMap.mp hc
  exact untT_ok (nrm_all h t (List.mem_reverse.mp ht)) c hc
theorem dbl_len (x : List Nat) : (dbl x).length ≤ 2 * x.length := by
  induction x with
  | nil => simp [dbl]
  | cons c l ih =>
    rw [dbl_cons, List.length_append, List.length_cons]
    split <;> simp <;> omega
theorem untT_len (t : Tk) : (untT t).length ≤ 2 * t.sz := by
  cases t with
  | fd c n => simp only [untT, List.length_replicate, Tk.sz]; omega
  | ch x =>
    have := dbl_len x
    simp only [untT, Tk.sz]
    split
    · simp only [List.length_cons, List.length_append, List.length_nil]; omega
    · omega
theorem unt_len (ts : List Tk) : (unt ts).length ≤ 2 * szs ts := by
  induction ts with
  | nil => simp [unt, szs]
  | cons t r ih =>
    have := untT_len t
    unfold unt at ih ⊢
    rw [List.flatMap_cons, List.length_append, szs_cons]; omega
/-- the tokenizer's tokens are never empty -/
theorem kC_ne {r : List Tk} {cb : List Nat} (h : ∀ x, Tk.ch x ∈ r → x ≠ []) : ∀ x, Tk.ch x ∈ kC r cb → x ≠ [] := by
  intro x hx
  unfold kC at hx
  split at hx
  · exact h x hx
  · rename_i hcb
    rcases List.mem_cons.mp hx with e | hx
    · cases e
      intro e
      have := unq_length cb
      rw [e] at this
      exact hcb (List.length_eq_zero_iff.mp this.symm)
    · exact h x hx
theorem kF_ne {r : List Tk} {f : Option (Nat × Nat)} (h : ∀ x, Tk.ch x ∈ r → x ≠ []) : ∀ x, Tk.ch x ∈ kF r f → x ≠ [] := by
  intro x hx
  cases f with
  | none => exact h x hx
  | some p =>
    rcases List.mem_cons.mp hx with e | hx
    · cases e
    · exact h x hx
theorem kStep_ne {k : KA} {d : Nat} (h : ∀ x, Tk.ch x ∈ k.res → x ≠ []) : ∀ x, Tk.ch x ∈ (kStep k d).res → x ≠ [] := by
  obtain ⟨res, cb, fd, qb⟩ := k
  dsimp only at h
  unfold kStep
  cases qb with
  | none =>
    dsimp only
    split
    · exact kC_ne (kF_ne h)
    · split
      · dsimp only
        have h2 := kC_ne (cb := cb) h
        cases fd with
        | none => exact h2
        | some p =>
          obtain ⟨c, n⟩ := p
          unfold kInc
          dsimp only
          split
          · exact h2
          · intro x hx
            rcases List.mem_cons.mp hx with e | hx
            · cases e
            · exact h2 x hx
      · exact kF_ne h
  | some q =>
    dsimp only
    split <;> exact h
theorem tok_ne (x : List Nat) : ∀ y, Tk.ch y ∈ tokR x → y ≠ [] := by
  have : ∀ (l : List Nat) (k : KA), (∀ x, Tk.ch x ∈ k.res → x ≠ []) → ∀ x, Tk.ch x ∈ (l.foldl kStep k).res → x ≠ [] := by
    intro l
    induction l with
    | nil => intro k h; exact h
    | cons d l ih => intro k h; exact ih _ (kStep_ne h)
  unfold tokR kEnd
  exact kC_ne (kF_ne (this _ kInit fun x h => nomatch h))
theorem tok_szs {x : List Nat} (h : (repL [39, 39] [0] x).length ≤ x.length) : szs (tokR x) ≤ 2 * x.length := by
  have h1 := (kRun_facts (repL [39, 39] [0] x)).2
  unfold tokR kEnd
  rw [szs_kC, szs_kF]
  unfold kSz at h1
  omega
theorem szs_rev (r : List Tk) : szs r.reverse = szs r := by simp [szs]
end Mine

-- MSeek
namespace Mine
set_option maxRecDepth 100000
set_option maxHeartbeats 8000000
section
variable {prog : Program} {w : World} {A : Around} {E : Value → Shared → Prop} {Q : Flow → Shared → Prop} {s : Shared} {env : Env} {g : Heap} {target : Expr} {body : List Stmt}
/-- a loop by its own turns, whatever is handled around it -/
noncomputable def SeekAt (prog : Program) (w : World) (A : Around) (env : Env) (target : Expr) (body : List Stmt) (Q : Flow → Shared → Prop) (E : Value → Shared → Prop) (it : Value) (s : Shared) : Prop :=
  ∃ (Inv : Nat → Shared → Prop) (n : Nat), Inv n s ∧ ∀ k s', Inv k s' → wpAny (model prog w) A (pyNext it) (fun r s₁ => match r with
    | none => Q .next s₁
    | some v => wpAny (model prog w) A (letOwnedTupleGo target it v) (fun _ s₁' =>
        wpAny (model prog w) A (assign target env v) (fun _ s₂ => wpAny (model prog w) A (execs body env) (fun f s₃ => match f with
          | .next | .cont => ∃ m, m < k ∧ Inv m s₃
          | .brk => Q .next s₃
          | .ret v => Q (.ret v) s₃) E s₂) E s₁') E s₁) E s'
theorem For_seek {iter : Expr} {pos : Pos}
    (h : wpAny (model prog w) A (eval iter env) (fun xv s₁ => wpAny (model prog w) A (pyIter xv) (fun it s₂ => SeekAt prog w A env target body Q E it s₂) E s₁) E s)
    (hs : ∀ x, foldedSetIterable iter env x = pure x := by intro _; rfl)
    (hE : PassesOwn (model prog w) A env E := by passes_own) :
    wpAny (model prog w) A (exec (.For target iter body [] pos) env) Q E s := by
  refine wpAny_For (wpAny_mono h (fun xv s₁ h₁ => wpAny_mono h₁ (fun it s₂ h₂ => ?_) fun _ _ e => e) fun _ _ e => e) hs
  obtain ⟨Inv, n, h0, turn⟩ := h₂
  refine codeAny_forLoop_any (R := fun r s' => match r with | .ok f => Q f s' | .error e => cameBackBy (model prog w) A env E e s') Inv (fun k s' hI => ?_) n h0
  refine wpAny_mono (turn k s' hI) (fun r s₁ h₁ => ?_) hE
  cases r with
  | none => exact wpAny_execs_nil h₁
  | some v =>
    refine wpAny_mono h₁ (fun _ s₁' h₂ => wpAny_mono h₂ (fun _ s₂ h₃ => wpAny_mono h₃ (fun f s₃ h₄ => ?_) hE) hE) hE
    cases f <;> exact h₄
/-- over a list that stands on the ledger; its end is never reached -/
theorem mseek {σ : Type} {l : Addr} {vs : List Value} {nn : Nat} {m₀ : Str → Option Value} {tn' : Str} {tp : Pos} (Led : σ → List (Addr × Obj)) (ps : σ → List (Str × Value)) (Facts : Nat → σ → Prop) (stored : List Str) (c₀ : σ)
    (hl : ∀ i c, Facts i c → (l, W.listOf vs.toArray nn) ∈ Led c)
    (F : Fr g env.locals s.heap m₀) (N : News g env.locals s.heap (Led c₀)) (hf : Facts 0 c₀) (hk : ∀ p ∈ ps c₀, m₀ p.1 = some p.2)
    (turn : ∀ i v (c : σ) (u : Str → Option Value) h tk own, vs[i]? = some v → Facts i c → OwnOff own ((Led c).map (·.1)) →
      Fr g env.locals h (kstB (fun z => if stored.contains z then u z else m₀ z) (ps c)) → News g env.locals h (Led c ++ own) →
      wpAny (model prog w) A (assign (.Name tn' tp) env v) (fun _ s₃ => wpAny (model prog w) A (execs body env) (MPost g env.locals { s with heap := h, toks := tk } Led ps Facts stored m₀ own Q (i + 1)) E s₃) E { s with heap := h, toks := tk })
    (no : ∀ c : σ, ¬ Facts vs.length c) :
    wpAny (model prog w) A (pyIter (.ref l)) (fun it s₂ => SeekAt prog w A env (.Name tn' tp) body Q E it s₂) E s := by
  have hol : s.heap.get? l = some (W.listOf vs.toArray nn) := (N _ (hl 0 c₀ hf)).1
  have hls : s.heap.IsList l vs.toArray := ⟨_, hol, rfl, nn, rfl⟩
  have hnew := next_is_new F
  have hLI : env.locals ≠ s.heap.objs.size := fun e => absurd F.ns.lt (e ▸ Nat.lt_irrefl _)
  refine wpAny_pyIter_list hls ?_
  refine ⟨fun k s' => ∃ (i : Nat) (c : σ) (h' : Heap) (tk : Nat) (m' : Str → Option Value), s' = { s with heap := h', toks := tk } ∧ h'.IsListIter s.heap.objs.size l i ∧ Fr g env.locals h' m' ∧ News g env.locals h' (Led c) ∧ (∀ p ∈ Led c, p.1 ≠ s.heap.objs.size) ∧ Facts i c ∧
      (∀ p ∈ ps c, m' p.1 = some p.2) ∧ (∀ z, (∀ p ∈ ps c, z ≠ p.1) → stored.contains z = false → m' z = m₀ z) ∧ i ≤ vs.length ∧ k = vs.length + 1 - i, vs.length + 1,
    ⟨0, c₀, _, s.toks, m₀, rfl, ⟨_, Heap.get?_push_size _ rfl, rfl, rfl⟩, F.push _, fun p hp => ⟨Heap.get?_push_of_some _ (N p hp).1, (N p hp).2⟩, ?_, hf, hk, fun _ _ _ => rfl, Nat.zero_le _, rfl⟩, ?_⟩
  · intro p hp e
    exact absurd (Heap.lt_size (N p hp).1) (e ▸ Nat.lt_irrefl _)
  rintro k s' ⟨i, c, h', tk, m', rfl, hit, F', N', hne, hf', h1, h2, hi, rfl⟩
  have hlt : i < vs.length := by
    rcases Nat.lt_or_ge i vs.length with h | h
    · exact h
    · have : i = vs.length := by omega
      subst this
      exact absurd hf' (no c)
  have hm := hl i c hf'
  have hll : h'.IsList l vs.toArray := ⟨_, (N' _ hm).1, rfl, nn, rfl⟩
  refine wpAny_pyNext_list_item hit hll (x := vs[i]) (by simp [hlt]) fun h₁ hit₁ hs₁ => ?_
  show wpAny (model prog w) A (letOwnedTupleGo (.Name tn' tp) _ _) _ E _
  unfold letOwnedTupleGo
  refine wpAny_pure ?_
  have keep : ∀ b o, b ≠ s.heap.objs.size → h'.get? b = some o → h₁.get? b = some o := fun b o hb e => hs₁.extBut b o hb e
  have F₁ : Fr g env.locals h₁ m' := ⟨F'.ns.at' fun o e => keep _ o hLI e, fun b o e => keep b o (fun q => by rw [q, hnew] at e; cases e) (F'.keep b o e), F'.above⟩
  obtain ⟨oI, hoI, hcI, hdI⟩ := hit₁
  have N₁ : News g env.locals h₁ (Led c ++ [(s.heap.objs.size, oI)]) := by
    intro p hp
    rcases List.mem_append.mp hp with hp | hp
    · exact ⟨keep _ _ (hne p hp) (N' p hp).1, (N' p hp).2⟩
    · rw [List.mem_singleton.mp hp]
      exact ⟨hoI, fun e => hLI e.symm, hnew⟩
  refine wpAny_mono (turn i vs[i] c m' h₁ tk [(s.heap.objs.size, oI)] (by simp [hlt]) hf' ?_ (ksw_fr h1 h2 F₁) N₁) (fun _ s₃ h₃ => wpAny_mono h₃ (fun f s₄ p => ?_) fun _ _ e => e) fun _ _ e => e
  · intro p hp b hb
    rw [List.mem_singleton.mp hp]
    obtain ⟨q, hq, rfl⟩ := List.mem_map.mp hb
    exact (hne q hq).symm
  · have fin : MEnd g env.locals { s with heap := h₁, toks := tk } Led ps Facts stored m₀ [(s.heap.objs.size, oI)] (i + 1) s₄ → ∃ m, m < vs.length + 1 - i ∧ ∃ (i : Nat) (c : σ) (h' : Heap) (tk : Nat) (m' : Str → Option Value), s₄ = { s with heap := h', toks := tk } ∧ h'.IsListIter s.heap.objs.size l i ∧ Fr g env.locals h' m' ∧ News g env.locals h' (Led c) ∧ (∀ p ∈ Led c, p.1 ≠ s.heap.objs.size) ∧ Facts i c ∧
      (∀ p ∈ ps c, m' p.1 = some p.2) ∧ (∀ z, (∀ p ∈ ps c, z ≠ p.1) → stored.contains z = false → m' z = m₀ z) ∧ i ≤ vs.length ∧ m = vs.length + 1 - i := by
      rintro ⟨c', h₂, tk₂, m₂, news₂, rfl, F₂, N₂, hn, ho, ha, hf9, hk9, hr9⟩
      refine ⟨vs.length + 1 - (i + 1), by omega, i + 1, c', h₂, tk₂, m₂, rfl, ⟨oI, (N₂ _ (ho _ (.head _))).1, hcI, hdI⟩, F₂, fun p hp => N₂ p (hn p hp), ?_, hf9, hk9, hr9, hlt, rfl⟩
      intro p hp e
      exact ha _ (.head _) p.1 (List.mem_map.mpr ⟨p, hp, rfl⟩) e.symm
    cases f with
    | ret v => exact p
    | brk => exact p
    | next => exact fin p
    | cont => exact fin p
end
end Mine

-- MSoundP
namespace Mine
set_option maxRecDepth 100000
set_option maxHeartbeats 8000000
/-- a reader's token as it lies on a ledger -/
inductive GIs (R : List (Addr × Obj)) : Tk → Value → Prop where
  | ch {x : List Nat} {a : Addr} (t0 t1 k : Nat) : (a, W.listOf #[.str (PySem.Str.ofString "chars") t0, .str (S x) t1] k) ∈ R → GIs R (.ch x) (.ref a)
  | fd {c n : Nat} {a : Addr} (t0 t1 t2 k : Nat) : (a, W.listOf #[.str (PySem.Str.ofString "field") t0, .str (S [c]) t1, .int n t2] k) ∈ R → GIs R (.fd c n) (.ref a)
theorem datIn_list {R : List (Addr × Obj)} {v : Value} {ds : List Dat} (h : DatIn R v (.list ds)) : ∃ a vs n, v = .ref a ∧ (a, W.listOf vs.toArray n) ∈ R ∧ DatAll R vs ds := by
  cases h with
  | list a b => exact ⟨_, _, _, rfl, a, b⟩
theorem gis_of {R : List (Addr × Obj)} {v : Value} {t : Tk} (h : DatIn R v t.rd) : GIs R t v := by
  cases t with
  | ch x =>
    obtain ⟨a, vs, n, rfl, hm, hd⟩ := datIn_list h
    obtain ⟨v1, vs1, rfl, h1, hd⟩ := datAll_cons hd
    obtain ⟨v2, vs2, rfl, h2, hd⟩ := datAll_cons hd
    obtain rfl := datAll_nil hd
    obtain ⟨t1, rfl⟩ := datIn_str h1
    obtain ⟨t2, rfl⟩ := datIn_str h2
    exact .ch _ _ _ hm
  | fd c k =>
    obtain ⟨a, vs, n, rfl, hm, hd⟩ := datIn_list h
    obtain ⟨v1, vs1, rfl, h1, hd⟩ := datAll_cons hd
    obtain ⟨v2, vs2, rfl, h2, hd⟩ := datAll_cons hd
    obtain ⟨v3, vs3, rfl, h3, hd⟩ := datAll_cons hd
    obtain rfl := datAll_nil hd
    obtain ⟨t1, rfl⟩ := datIn_str h1
    obtain ⟨t2, rfl⟩ := datIn_str h2
    obtain ⟨t3, rfl⟩ := datIn_int h3
    exact .fd _ _ _ _ hm
theorem gis_at {R : List (Addr × Obj)} {vs : List Value} {ts : List Tk} {i : Nat} {v : Value} (h : DatAll R vs (ts.map Tk.rd)) (hv : vs[i]? = some v) : ∃ t, ts[i]? = some t ∧ GIs R t v := by
  have hlen := h.length
  rw [List.length_map] at hlen
  have hi : i < ts.length := by rw [← hlen]; exact (List.getElem?_eq_some_iff.mp hv).1
  obtain ⟨v', hv', hD⟩ := h.get (k := i) (by rw [List.length_map]; exact hi)
  rw [hv] at hv'
  cases hv'
  refine ⟨ts[i], by simp, gis_of ?_⟩
  simpa using hD
theorem gis_mono {R R' : List (Addr × Obj)} {t : Tk} {v : Value} (h : GIs R t v) (hs : ∀ p ∈ R, p ∈ R') : GIs R' t v := by
  cases h with
  | ch t0 t1 k h1 => exact .ch _ _ _ (hs _ h1)
  | fd t0 t1 t2 k h1 => exact .fd _ _ _ _ (hs _ h1)
theorem sound_take {ts : List Tk} {i : Nat} {t : Tk} (h : ts[i]? = some t) (hs : sound (ts.take i) = true) : sound (ts.take (i + 1)) = okT t := by
  unfold sound at hs ⊢
  rw [List.take_add_one, h]
  simp [hs]
theorem sound_bad {ts : List Tk} {i : Nat} {t : Tk} (h : ts[i]? = some t) (hs : okT t = false) : sound ts = false := by
  unfold sound
  rw [List.all_eq_false]
  exact ⟨t, List.mem_of_getElem? h, by simp [hs]⟩
theorem szs_at {ts : List Tk} {i : Nat} {t : Tk} (h : ts[i]? = some t) : t.sz ≤ szs ts := by
  have h1 := szs_take h
  have h2 := szs_take_le ts (i + 1)
  omega
/-- which way a turn of the check goes -/
inductive SC (R : List (Addr × Obj)) (ts : List Tk) (i : Nat) (v : Value) : Prop where
  | ch (x : List Nat) (b t0 t1 e : Nat) : v = .ref b → (b, W.listOf #[.str (PySem.Str.ofString "chars") t0, .str (S x) t1] e) ∈ R → sound (ts.take (i + 1)) = true → SC R ts i v
  | fd (c n : Nat) (b t0 t1 t2 e : Nat) : v = .ref b → (b, W.listOf #[.str (PySem.Str.ofString "field") t0, .str (S [c]) t1, .int n t2] e) ∈ R → c ∈ [121, 77, 100, 69, 99, 72, 79, 70, 83] → n ≤ 900 → sound (ts.take (i + 1)) = okT (.fd c n) → (okT (.fd c n) = false → sound ts = false) → SC R ts i v
theorem sound_cases {R own : List (Addr × Obj)} {vs : List Value} {ts : List Tk} {i : Nat} {v : Value} (hd : DatAll R vs (ts.map Tk.rd)) (hv : vs[i]? = some v) (hok : ∀ t ∈ ts, okTk t) (hz : szs ts ≤ 900) (hs : sound (ts.take i) = true) : SC (R ++ own) ts i v := by
  obtain ⟨t, ht, hT⟩ := gis_at hd hv
  have hT1 := gis_mono hT (R' := R ++ own) fun p hp => List.mem_append_left _ hp
  have h1 := sound_take ht hs
  have h2 := szs_at ht
  cases hT1 with
  | @ch x a t0 t1 k hm => exact .ch x a t0 t1 k rfl hm h1
  | @fd c n a t0 t1 t2 k hm =>
    have ho := hok _ (List.mem_of_getElem? ht)
    refine .fd c n a t0 t1 t2 k rfl hm (List.contains_iff_mem.mp ho.2.1) ?_ h1 (sound_bad ht)
    simp only [Tk.sz] at h2; omega
noncomputable abbrev SPost (R : List (Addr × Obj)) (ts : List Tk) (g : Heap) (L : Addr) (s : Shared) (m₀ : Str → Option Value) (own : List (Addr × Obj)) (Q : Flow → Shared → Prop) (i : Nat) : Flow → Shared → Prop :=
  MPost (σ := Unit) g L s (fun _ => R) (fun _ => []) (fun i _ => sound (ts.take i) = true) [PySem.Str.ofString "token", PySem.Str.ofString "lengths"] m₀ own Q i
theorem sound_end {R own : List (Addr × Obj)} {ts : List Tk} {g : Heap} {L : Addr} {s : Shared} {m₀ m' : Str → Option Value} {i : Nat} {h' : Heap} {tk : Nat}
    (F : Fr g L h' m') (N : News g L h' (R ++ own)) (ho : OwnOff own (R.map (·.1))) (he : sound (ts.take (i + 1)) = true)
    (hr : ∀ z, [PySem.Str.ofString "token", PySem.Str.ofString "lengths"].contains z = false → m' z = m₀ z) :
    MEnd (σ := Unit) g L s (fun _ => R) (fun _ => []) (fun i _ => sound (ts.take i) = true) [PySem.Str.ofString "token", PySem.Str.ofString "lengths"] m₀ own (i + 1) { s with heap := h', toks := tk } :=
  mend (σ := Unit) () F N (fun p hp => List.mem_append_left _ hp) (fun p hp => List.mem_append_right _ hp) ho he (fun p hp => nomatch hp) (fun z _ h => hr z h)
theorem sound_loop {prog : Program} {w : World} {A : Around} {E : Value → Shared → Prop} {Q : Flow → Shared → Prop} {s : Shared} {env : Env} {g : Heap} {target : Expr} {body : List Stmt} {m₀ : Str → Option Value} {l : Addr} {nn : Nat} {R : List (Addr × Obj)} {vs : List Value} (ts : List Tk)
    (hh : A.handled = none) (F : Fr g env.locals s.heap m₀) (N : News g env.locals s.heap R) (hl : (l, W.listOf vs.toArray nn) ∈ R) (hd : DatAll R vs (ts.map Tk.rd)) (hok : ∀ t ∈ ts, okTk t) (hz : szs ts ≤ 900)
    (turn : ∀ (i : Nat) (v : Value) (own : List (Addr × Obj)) (u : Str → Option Value) (h : Heap) (tk : Nat), SC (R ++ own) ts i v → OwnOff own (R.map (·.1)) →
      Fr g env.locals h (kstB (fun z => if [PySem.Str.ofString "token", PySem.Str.ofString "lengths"].contains z then u z else m₀ z) []) → News g env.locals h (R ++ own) →
      wpAny (model prog w) A (assign target env v) (fun _ s₃ => wpAny (model prog w) A (execs body env) (SPost R ts g env.locals { s with heap := h, toks := tk } m₀ own Q (i + 1)) E s₃) E { s with heap := h, toks := tk })
    (done : ∀ (u : Str → Option Value) h tk, sound ts = true → Fr g env.locals h (kstB (fun z => if [PySem.Str.ofString "token", PySem.Str.ofString "lengths"].contains z then u z else m₀ z) []) → News g env.locals h R → Q .next { s with heap := h, toks := tk }) :
    wpAny (model prog w) A (pyIter (.ref l)) (fun it s₂ => TurnsAt prog w A g env target body Q E it s₂) E s := by
  refine mlist (σ := Unit) (fun _ => R) (fun _ => []) (fun i _ => sound (ts.take i) = true) [PySem.Str.ofString "token", PySem.Str.ofString "lengths"] () hh (fun _ _ _ => hl) F N rfl (fun p hp => nomatch hp) ?_ ?_
  · intro i v c u h tk own hv hf ho F' N'
    exact turn i v own u h tk (sound_cases hd hv hok hz hf) ho F' N'
  · intro c u h tk hf F' N'
    refine done u h tk ?_ F' N'
    have hlen := hd.length
    rw [List.length_map] at hlen
    rw [hlen, List.take_length] at hf
    exact hf
theorem sound_seek {prog : Program} {w : World} {A : Around} {E : Value → Shared → Prop} {Q : Flow → Shared → Prop} {s : Shared} {env : Env} {g : Heap} {tn' : Str} {tp : Pos} {body : List Stmt} {m₀ : Str → Option Value} {l : Addr} {nn : Nat} {R : List (Addr × Obj)} {vs : List Value} (ts : List Tk)
    (hno : sound ts = false) (F : Fr g env.locals s.heap m₀) (N : News g env.locals s.heap R) (hl : (l, W.listOf vs.toArray nn) ∈ R) (hd : DatAll R vs (ts.map Tk.rd)) (hok : ∀ t ∈ ts, okTk t) (hz : szs ts ≤ 900)
    (turn : ∀ (i : Nat) (v : Value) (own : List (Addr × Obj)) (u : Str → Option Value) (h : Heap) (tk : Nat), SC (R ++ own) ts i v → OwnOff own (R.map (·.1)) →
      Fr g env.locals h (kstB (fun z => if [PySem.Str.ofString "token", PySem.Str.ofString "lengths"].contains z then u z else m₀ z) []) → News g env.locals h (R ++ own) →
      wpAny (model prog w) A (assign (.Name tn' tp) env v) (fun _ s₃ => wpAny (model prog w) A (execs body env) (SPost R ts g env.locals { s with heap := h, toks := tk } m₀ own Q (i + 1)) E s₃) E { s with heap := h, toks := tk }) :
    wpAny (model prog w) A (pyIter (.ref l)) (fun it s₂ => SeekAt prog w A env (.Name tn' tp) body Q E it s₂) E s := by
  refine mseek (σ := Unit) (fun _ => R) (fun _ => []) (fun i _ => sound (ts.take i) = true) [PySem.Str.ofString "token", PySem.Str.ofString "lengths"] () (fun _ _ _ => hl) F N rfl (fun p hp => nomatch hp) ?_ ?_
  · intro i v c u h tk own hv hf ho F' N'
    exact turn i v own u h tk (sound_cases hd hv hok hz hf) ho F' N'
  · intro c hf
    have hlen := hd.length
    rw [List.length_map] at hlen
    rw [hlen, List.take_length, hno] at hf
    cases hf
theorem my_item {M : World} {A : Around} {h₀ : Heap} {L o : Addr} {news : List (Addr × Obj)} {prog : Program} {s : Shared} {E : Value → Shared → Prop} {items : Array Value} {x : Value} {k : Int} {n : Nat} {u : Tok} {Q : Value → Shared → Prop} {value slice : Expr}
    (N : News h₀ L s.heap news) (hm : (o, W.listOf items n) ∈ news) (h0 : 0 ≤ k) (hhi : k < 2 ^ 63) (hx : items[k.toNat]? = some x) (h : Q x s)
    (hs : subscripted slice false (.ref o) (.int k u) = operate [.ref o, .int k u] (getItem (.ref o) (.int k u)) := by with_unfolding_all rfl) : wpAny (model prog M) A (subscriptTail value slice (.ref o) (.int k u)) Q E s := by
  have hl : s.heap.IsList o items := ⟨_, (N _ hm).1, rfl, n, rfl⟩
  exact tail_any hl.typeIs slot_list_getitem.lookup (wpAny_getItem_list (x := x) hl h0 hhi hx h) hs
theorem my_item0 {M : World} {A : Around} {h₀ : Heap} {L o : Addr} {news : List (Addr × Obj)} {prog : Program} {s : Shared} {E : Value → Shared → Prop} {vs : List Value} {x : Value} {n : Nat} {u : Tok} {Q : Value → Shared → Prop} {value slice : Expr}
    (N : News h₀ L s.heap news) (hm : (o, W.listOf (x :: vs).toArray n) ∈ news) (h : Q x s)
    (hs : subscripted slice false (.ref o) (.int 0 u) = operate [.ref o, .int 0 u] (getItem (.ref o) (.int 0 u)) := by with_unfolding_all rfl) : wpAny (model prog M) A (subscriptTail value slice (.ref o) (.int 0 u)) Q E s :=
  my_item N hm (by decide) (by decide) (by simp) h hs
theorem my_item1 {M : World} {A : Around} {h₀ : Heap} {L o : Addr} {news : List (Addr × Obj)} {prog : Program} {s : Shared} {E : Value → Shared → Prop} {vs : List Value} {x y : Value} {n : Nat} {u : Tok} {Q : Value → Shared → Prop} {value slice : Expr}
    (N : News h₀ L s.heap news) (hm : (o, W.listOf (y :: x :: vs).toArray n) ∈ news) (h : Q x s)
    (hs : subscripted slice false (.ref o) (.int 1 u) = operate [.ref o, .int 1 u] (getItem (.ref o) (.int 1 u)) := by with_unfolding_all rfl) : wpAny (model prog M) A (subscriptTail value slice (.ref o) (.int 1 u)) Q E s :=
  my_item N hm (by decide) (by decide) (by simp) h hs
theorem my_item2 {M : World} {A : Around} {h₀ : Heap} {L o : Addr} {news : List (Addr × Obj)} {prog : Program} {s : Shared} {E : Value → Shared → Prop} {vs : List Value} {x y z : Value} {n : Nat} {u : Tok} {Q : Value → Shared → Prop} {value slice : Expr}
    (N : News h₀ L s.heap news) (hm : (o, W.listOf (y :: z :: x :: vs).toArray n) ∈ news) (h : Q x s)
    (hs : subscripted slice false (.ref o) (.int 2 u) = operate [.ref o, .int 2 u] (getItem (.ref o) (.int 2 u)) := by with_unfolding_all rfl) : wpAny (model prog M) A (subscriptTail value slice (.ref o) (.int 2 u)) Q E s :=
  my_item N hm (by decide) (by decide) (by simp) h hs
noncomputable def lidx (c : Nat) : Nat := [121, 77, 100, 69, 99, 72, 79, 70, 83].idxOf c
noncomputable def lensT (c : Nat) : List Nat := (lens c).map (· + 48)
open StrLaws Builtin.Str in
theorem occ_letters {c : Nat} (hc : c ∈ [121, 77, 100, 69, 99, 72, 79, 70, 83]) : ∃ rest, occurrences (PySem.Str.ofString "yMdEcHOFS") (S [c]) 0 (PySem.Str.ofString "yMdEcHOFS").length 1 = lidx c :: rest := by
  simp only [List.mem_cons, List.not_mem_nil, or_false] at hc
  rcases hc with rfl | rfl | rfl | rfl | rfl | rfl | rfl | rfl | rfl
  · exact ⟨[], by decide +kernel⟩
  · exact ⟨[], by decide +kernel⟩
  · exact ⟨[], by decide +kernel⟩
  · exact ⟨[], by decide +kernel⟩
  · exact ⟨[], by decide +kernel⟩
  · exact ⟨[], by decide +kernel⟩
  · exact ⟨[], by decide +kernel⟩
  · exact ⟨[], by decide +kernel⟩
  · exact ⟨[], by decide +kernel⟩
theorem my_index {M : World} {A : Around} {prog : Program} {s : Shared} {E : Value → Shared → Prop} {c : Nat} {t u : Tok} {Q : Value → Shared → Prop} (hc : c ∈ [121, 77, 100, 69, 99, 72, 79, 70, 83]) (h : Q (.int (lidx c : Nat) s.toks) { s with toks := s.toks + 1 }) :
    wpAny (model prog M) A (call (.builtin "str.index") [.str (PySem.Str.ofString "yMdEcHOFS") t, .str (S [c]) u]) Q E s := by
  obtain ⟨rest, e⟩ := occ_letters hc
  exact SC.index e h
theorem my_lens {h₀ : Heap} {L : Addr} {m : Str → Option Value} {w : World} {A : Around} {s : Shared} {E : Value → Shared → Prop} {c : Nat} {u : Tok} {Q : Value → Shared → Prop} {value slice : Expr}
    (F : Fr h₀ L s.heap m) (X : (hd.heap_39 w.params).In h₀) (hc : c ∈ [121, 77, 100, 69, 99, 72, 79, 70, 83]) (h : ∀ t', Q (.str (S (lensT c)) t') s)
    (hs : subscripted slice false (.ref 112) (.int (lidx c : Nat) u) = operate [.ref 112, .int (lidx c : Nat) u] (getItem (.ref 112) (.int (lidx c : Nat) u)) := by with_unfolding_all rfl) :
    wpAny (model PySem.Challenge.rw_wx0001_01.row.prog w) A (subscriptTail value slice (.ref 112) (.int (lidx c : Nat) u)) Q E s := by
  revert X; k_fill; intro X
  simp only [List.mem_cons, List.not_mem_nil, or_false] at hc
  rcases hc with rfl | rfl | rfl | rfl | rfl | rfl | rfl | rfl | rfl
  all_goals
    refine' topTup_K (v := .str _ _) F X ?l ?a ?b ?c ?d ?_ hs
    case l => k_is
    case a => decide
    case b => decide
    case c => rfl
    case d => rfl
    exact h _
theorem lens_none {c n : Nat} (h : (S (lensT c) != PySem.Str.ofString "") = false) : okT (.fd c n) = true := by
  have h1 : lensT c = [] := by
    rw [show PySem.Str.ofString "" = S [] from rfl, bne, S_beq] at h
    simpa using h
  have h2 : lens c = [] := by simpa [lensT] using h1
  simp [okT, h2]
theorem lens_some {c : Nat} (h : (S (lensT c) != PySem.Str.ofString "") = true) : (lens c).isEmpty = false := by
  cases h2 : lens c with
  | nil =>
    have h1 : lensT c = [] := by simp [lensT, h2]
    rw [h1] at h
    exact absurd h (by decide)
  | cons => rfl
theorem lens_le {c n : Nat} (h : n ∈ lens c) : n ≤ 9 := by
  unfold lens at h
  split at h
  · simp at h; omega
  split at h
  · simp at h; omega
  split at h
  · simp at h; omega
  split at h
  · simp at h; omega
  split at h
  · simp at h; omega
  split at h
  · simp at h; omega
  split at h
  · simp at h; omega
  · cases h
theorem lens_gt {c n : Nat} (h : (S (lensT c) != PySem.Str.ofString "") = true) (hn : (9 : Int) < (n : Int)) : okT (.fd c n) = false := by
  show ((lens c).isEmpty || (lens c).contains n) = _
  rw [lens_some h, Bool.false_or]
  cases h2 : (lens c).contains n with
  | false => rfl
  | true => have := lens_le (List.contains_iff_mem.mp h2); omega
theorem digit_lit : ∀ n, n ≤ 9 → PySem.Str.ofString (toString ((n : Nat) : Int)) = S [48 + n]
  | 0, _ => by decide +kernel
  | 1, _ => by decide +kernel
  | 2, _ => by decide +kernel
  | 3, _ => by decide +kernel
  | 4, _ => by decide +kernel
  | 5, _ => by decide +kernel
  | 6, _ => by decide +kernel
  | 7, _ => by decide +kernel
  | 8, _ => by decide +kernel
  | 9, _ => by decide +kernel
  | n + 10, h => by omega
theorem lens_in {c n : Nat} {b : Bool} (h : (S (lensT c) != PySem.Str.ofString "") = true) (hn : ¬ (9 : Int) < (n : Int)) (hb : (PySem.Builtin.Str.occurrences (S (lensT c)) (PySem.Str.ofString (toString ((n : Nat) : Int))) 0 (S (lensT c)).length 1).isEmpty = b) : okT (.fd c n) = !b := by
  rw [digit_lit n (by omega)] at hb
  have h2 := PySem.StrLaws.found_one (S (lensT c)) (48 + n)
  rw [show (⟨#[48 + n]⟩ : Str) = S [48 + n] from rfl, hb, S_cps] at h2
  show ((lens c).isEmpty || (lens c).contains n) = _
  rw [lens_some h, Bool.false_or, h2]
  by_cases h3 : n ∈ lens c
  · rw [List.contains_iff_mem.mpr h3, decide_eq_true]
    exact List.mem_map.mpr ⟨n, h3, by omega⟩
  · have h4 : (lens c).contains n = false := by
      cases h5 : (lens c).contains n with
      | false => rfl
      | true => exact absurd (List.contains_iff_mem.mp h5) h3
    rw [h4, decide_eq_false]
    intro h5
    obtain ⟨k, hk, e⟩ := List.mem_map.mp h5
    have : k = n := by omega
    exact h3 (this ▸ hk)
section
variable {w : World} {p : Program} {loose : List Str} {mean : ExcName → Option Value} {mg mb : Str → Option Value}
  {dp un : Nat} {gd : Option (List Code)} {cn : Str} {cs : Scope} {a : Addr} {ccd : Value} {cl : List (Str × Addr)} {outer : List Env} {A₀ : Around} {base h₀ : Heap} {L : Addr} {m : Str → Option Value} {s : Shared} {Q E : Value → Shared → Prop}

end
end Mine

-- MSound
namespace Mine
set_option maxRecDepth 100000
set_option maxHeartbeats 8000000
local macro_rules | `(tactic| walk_at "MY_PAD0") => `(tactic| fail)
local macro_rules | `(tactic| walk_at "MY_PAD1") => `(tactic| fail)
local macro_rules | `(tactic| walk_at "MY_PAD2") => `(tactic| fail)
local macro_rules | `(tactic| walk_at "MY_PAD3") => `(tactic| fail)
local macro_rules | `(tactic| walk_at "MY_PAD4") => `(tactic| fail)
local macro_rules | `(tactic| walk_at "MY_PAD5") => `(tactic| fail)
local macro_rules | `(tactic| walk_at "MY_PAD6") => `(tactic| fail)
local macro_rules | `(tactic| walk_at "MY_PAD7") => `(tactic| fail)
local macro_rules | `(tactic| walk_at "MY_PAD8") => `(tactic| fail)
local macro_rules | `(tactic| walk_at "MY_PAD9") => `(tactic| fail)
local macro_rules | `(tactic| walk_at "MY_PAD10") => `(tactic| fail)
local macro_rules | `(tactic| walk_at "MY_PAD11") => `(tactic| fail)
local macro_rules | `(tactic| walk_at "MY_PAD12") => `(tactic| fail)
theorem reset_MSound : True := by
  w_top off
  k_with_none
  trivial
local macro_rules | `(tactic| walk_at "truthy ref") => `(tactic| (k_here; (with_reducible show wpAny _ _ (truthy (Value.ref _)) _ _ _); k_dflt (refine' my_truthyS ?N ?m ?f ?_; (case N => k_asm); (case m => k_mem); (case f => omega); k_whole; intro tk9)))
local macro_rules | `(tactic| walk_at "subscriptTail Name UnaryOp ref int") => `(tactic| (k_here; (with_reducible show wpAny _ _ (subscriptTail _ _ (Value.ref _) (Value.int (-1) _)) _ _ _); k_dflt (refine' my_last ?N ?m ?_; (case N => k_asm); (case m => k_mem); k_whole)))
local macro_rules | `(tactic| k_mem) => `(tactic| assumption)
local macro_rules | `(tactic| walk_at "exec For") => `(tactic| (k_here; (rename Fr _ _ _ _ => lF'); (with_unfolding_all refine' For_turns lF' ?_); k_whole; walk_say "MY FOR"))
local macro_rules | `(tactic| walk_at "MY_ENTERC") => `(tactic| k_dflt (refine' code_defC1 (PySem.Str.ofString "pattern") _ ?k1 ?k2 ?k3 ?k4 ?k5 ?kA ?kF ?kK ?k6 ?k7 ?k8 ?k9 ?kBe ?kB ?kB2 ?kD ?_ ?c2 ?c3 ?c4; (case kA => exact rfl); (case kF => exact rfl); (case kK => assumption); (case k1 => k_asm); (case k2 => k_asm); (case k3 => k_asm); (case k4 => k_asm); (case k5 => k_asm); (case k6 => k_is); (case k7 => k_is); (case k8 => ktr_room); (case k9 => first | exact BindsTo.of_eq rfl | exact binds_K (by k_in) rfl (by k_is) rfl rfl rfl | fail "k_enter: no rule for these arguments"); (case kBe => exact rfl); (case kB => exact fun _ => rfl); (case kB2 => exact rfl); (case kD => decide +kernel); (case c2 => exact rfl); (case c3 => exact rfl); (case c4 => exact rfl); k_whole; intro g' L' h' tk' cells' FG' F' N' Y' B' X' T' l1; (try k_lt l1); k_cells Y'; (try simp only [List.cons_append, List.nil_append] at N'); (try dsimp only); (try k_lift B'); (try k_fold)))
local macro_rules | `(tactic| walk_at "newList") => `(tactic| (k_here; k_dflt (refine' newList_K ?k1 ?k2 ?_; (case k1 => k_asm); (case k2 => k_asm); k_whole); intro l' h' F' N' l1; (try k_lt l1); (first
  | (have la9 : AllLt _ _ := l1; have lo9 := allLt_ne la9) | (have la9 : AllLt _ _ := l1.2; have lo9 := allLt_ne la9) | (have la9 : AllLt _ _ := l1.2.2; have lo9 := allLt_ne la9) | (have la9 : AllLt _ _ := l1.2.2.2; have lo9 := allLt_ne la9) | (have la9 : AllLt _ _ := l1.2.2.2.2; have lo9 := allLt_ne la9) | (have la9 : AllLt _ _ := l1.2.2.2.2.2; have lo9 := allLt_ne la9) | (have la9 : AllLt _ _ := l1.2.2.2.2.2.2; have lo9 := allLt_ne la9)
  | (have la9 : AllLt _ _ := l1.2.2.2.2.2.2.2; have lo9 := allLt_ne la9) | (have la9 : AllLt _ _ := l1.2.2.2.2.2.2.2.2; have lo9 := allLt_ne la9) | (have la9 : AllLt _ _ := l1.2.2.2.2.2.2.2.2.2; have lo9 := allLt_ne la9) | (have la9 : AllLt _ _ := l1.2.2.2.2.2.2.2.2.2.2; have lo9 := allLt_ne la9) | (have la9 : AllLt _ _ := l1.2.2.2.2.2.2.2.2.2.2.2; have lo9 := allLt_ne la9) | (have la9 : AllLt _ _ := l1.2.2.2.2.2.2.2.2.2.2.2.2; have lo9 := allLt_ne la9)
  | (have la9 : AllLt _ _ := l1.2.2.2.2.2.2.2.2.2.2.2.2.2; have lo9 := allLt_ne la9) | (have la9 : AllLt _ _ := l1.2.2.2.2.2.2.2.2.2.2.2.2.2.2; have lo9 := allLt_ne la9) | (have la9 : AllLt _ _ := l1.2.2.2.2.2.2.2.2.2.2.2.2.2.2.2; have lo9 := allLt_ne la9) | skip); (try k_sweep)))

local macro_rules | `(tactic| k_all) => `(tactic| assumption)
local macro_rules | `(tactic| walk_at "truthy str") => `(tactic| (k_here; (first | (with_reducible refine my_tr1 ?_) | (with_reducible refine my_tr0 ?_)); intro tk9))
local macro_rules | `(tactic| walk_at "subscriptTail Name Constant ref int") => `(tactic| (k_here; (with_reducible show wpAny _ _ (subscriptTail _ _ (Value.ref _) (Value.int 0 _)) _ _ _); k_dflt (refine' my_first ?N ?m ?_; (case N => k_asm); (case m => k_mem); k_whole)))
local macro_rules | `(tactic| walk_at "callWith") => `(tactic| (k_here; (with_reducible show wpAny _ _ (callWith _ (Value.builtin _) (_ :: _) (backTo _ (starEach (_ :: _) _)) []) _ _ _); refine callWith_method1 ?_))
local macro_rules | `(tactic| walk_at "subscriptTail Name Constant ref int") => `(tactic| (k_here; (with_reducible show wpAny _ _ (subscriptTail _ _ (Value.ref _) (Value.int 0 _)) _ _ _); k_dflt (refine' my_item0 ?N ?m ?_; (case N => k_asm); (case m => k_mem); k_whole)))
local macro_rules | `(tactic| walk_at "subscriptTail Name Constant ref int") => `(tactic| (k_here; (with_reducible show wpAny _ _ (subscriptTail _ _ (Value.ref _) (Value.int 1 _)) _ _ _); k_dflt (refine' my_item1 ?N ?m ?_; (case N => k_asm); (case m => k_mem); k_whole)))
local macro_rules | `(tactic| walk_at "subscriptTail Name Constant ref int") => `(tactic| (k_here; (with_reducible show wpAny _ _ (subscriptTail _ _ (Value.ref _) (Value.int 2 _)) _ _ _); k_dflt (refine' my_item2 ?N ?m ?_; (case N => k_asm); (case m => k_mem); k_whole)))
local macro_rules | `(tactic| walk_at $s:str) => `(tactic| k_extra $s)
section
variable {w : World} {p : Program} {loose : List Str} {mean : ExcName → Option Value} {mg mb : Str → Option Value}
  {dp un : Nat} {gd : Option (List Code)} {cn : Str} {cs : Scope} {a : Addr} {ccd : Value} {cl : List (Str × Addr)} {outer : List Env} {A₀ : Around} {base h₀ : Heap} {L : Addr} {m : Str → Option Value} {s : Shared} {Q E : Value → Shared → Prop}
theorem sound_spec {R : List (Addr × Obj)} {l nn : Nat} {vs : List Value} {ts : List Tk}
    (B : Below A₀ base outer h₀) (F : Fr h₀ L s.heap m) (X : (hd.heap_39 w.params).In h₀) (N : News h₀ L s.heap R)
    (T : Top p loose mean mg mb h₀) (hk : cs.kind = .function) (hdp : dp + 2 < recursionLimit) (hu : un + 16 < cLine)
    (hl : (l, W.listOf vs.toArray nn) ∈ R) (hd : DatAll R vs (ts.map Tk.rd)) (hok : ∀ t ∈ ts, okTk t) (hz : szs ts ≤ 900)
    (ret : ∀ h' tk', Fr h₀ L h' m → News h₀ L h' R → Q (.bool (sound ts)) { s with heap := h', toks := tk' }) :
    wpAny (model PySem.Challenge.rw_wx0001_01.row.prog w) (ktrTop dp un gd cn cs L a ccd cl outer) (call (.ref 140) [.ref l]) Q E s := by
  revert X B F T; k_fill; intro B F X T
  k_with_none
  k_with "exec For Name Name cons nil" => (
    (rename Fr _ _ _ _ => lF')
    (with_unfolding_all refine' For_turns lF' ?_))
  k_with "pyIter ref" => (
    (rename News _ _ _ _ => N0); (rename Fr _ _ _ _ => F0)
    refine sound_loop ts rfl F0 N0 hl hd hok hz (fun i v own u h9 tk9 hc hoff F9 N9 => ?_) (fun u h9 tk9 hsn F9 N9 => ?_)
    all_goals clear F0 N0
    all_goals (try (rcases hc with ⟨x, b, t0, t1, e, rfl, hm, he⟩ | ⟨c, n, b, t0, t1, t2, e, rfl, hm, hc9, hn9, he, hbad⟩)))
  k_with "call builtin:str.index" => (
    with_reducible refine my_index (by assumption) ?_)
  k_with "subscriptTail Name Call ref int" => (
    k_dflt (refine' my_lens ?F ?X ?c ?_)
    (case F => k_asm)
    (case X => k_asm)
    (case c => assumption)
    intro tl)
  refine wpAny_call ?_
  k_dflt cell_enter
  k_steps
  all_goals (try (dsimp only [SPost, MPost]; (try k_steps)))
  all_goals (rename Fr _ _ _ _ => Fz; rename News _ _ _ _ => Nz)
  all_goals first
    | (rw [hsn] at ret; exact ret _ _ Fz Nz)
    | (have e9 := hbad (lens_gt (by assumption) (by assumption)); rw [e9] at ret; exact ret _ _ Fz fun p hp => Nz p (List.mem_append_left _ hp))
    | (have e9 := hbad (lens_in (b := true) (by assumption) (by assumption) (by assumption)); rw [e9] at ret; exact ret _ _ Fz fun p hp => Nz p (List.mem_append_left _ hp))
    | (refine sound_end Fz Nz hoff (by first | exact he | (rw [he]; exact lens_none (by assumption)) | (rw [he]; exact lens_in (b := false) (by assumption) (by assumption) (by assumption))) ?_
       intro z h2
       have h3 := h2
       simp only [List.contains_cons, List.contains_nil, Bool.or_false, Bool.or_eq_false_iff, beq_eq_false_iff_ne, ne_eq] at h2
       simp only [kstB, h2, h3, if_false, Bool.false_eq_true])

end
end Mine

-- MSoundH
namespace Mine
set_option maxRecDepth 100000
set_option maxHeartbeats 8000000
local macro_rules | `(tactic| walk_at "MY_PAD0") => `(tactic| fail)
local macro_rules | `(tactic| walk_at "MY_PAD1") => `(tactic| fail)
local macro_rules | `(tactic| walk_at "MY_PAD2") => `(tactic| fail)
local macro_rules | `(tactic| walk_at "MY_PAD3") => `(tactic| fail)
local macro_rules | `(tactic| walk_at "MY_PAD4") => `(tactic| fail)
local macro_rules | `(tactic| walk_at "MY_PAD5") => `(tactic| fail)
local macro_rules | `(tactic| walk_at "MY_PAD6") => `(tactic| fail)
local macro_rules | `(tactic| walk_at "MY_PAD7") => `(tactic| fail)
local macro_rules | `(tactic| walk_at "MY_PAD8") => `(tactic| fail)
local macro_rules | `(tactic| walk_at "MY_PAD9") => `(tactic| fail)
local macro_rules | `(tactic| walk_at "MY_PAD10") => `(tactic| fail)
local macro_rules | `(tactic| walk_at "MY_PAD11") => `(tactic| fail)
local macro_rules | `(tactic| walk_at "MY_PAD12") => `(tactic| fail)
local macro_rules | `(tactic| walk_at "MY_PAD13") => `(tactic| fail)
theorem reset_MSoundH : True := by
  w_top off
  k_with_none
  trivial
local macro_rules | `(tactic| walk_at "truthy ref") => `(tactic| (k_here; (with_reducible show wpAny _ _ (truthy (Value.ref _)) _ _ _); k_dflt (refine' my_truthyS ?N ?m ?f ?_; (case N => k_asm); (case m => k_mem); (case f => omega); k_whole; intro tk9)))
local macro_rules | `(tactic| walk_at "subscriptTail Name UnaryOp ref int") => `(tactic| (k_here; (with_reducible show wpAny _ _ (subscriptTail _ _ (Value.ref _) (Value.int (-1) _)) _ _ _); k_dflt (refine' my_last ?N ?m ?_; (case N => k_asm); (case m => k_mem); k_whole)))
local macro_rules | `(tactic| k_mem) => `(tactic| assumption)
local macro_rules | `(tactic| walk_at "exec For") => `(tactic| (k_here; (rename Fr _ _ _ _ => lF'); (with_unfolding_all refine' For_turns lF' ?_); k_whole; walk_say "MY FOR"))
local macro_rules | `(tactic| walk_at "MY_ENTERC") => `(tactic| k_dflt (refine' code_defC1 (PySem.Str.ofString "pattern") _ ?k1 ?k2 ?k3 ?k4 ?k5 ?kA ?kF ?kK ?k6 ?k7 ?k8 ?k9 ?kBe ?kB ?kB2 ?kD ?_ ?c2 ?c3 ?c4; (case kA => exact rfl); (case kF => exact rfl); (case kK => assumption); (case k1 => k_asm); (case k2 => k_asm); (case k3 => k_asm); (case k4 => k_asm); (case k5 => k_asm); (case k6 => k_is); (case k7 => k_is); (case k8 => ktr_room); (case k9 => first | exact BindsTo.of_eq rfl | exact binds_K (by k_in) rfl (by k_is) rfl rfl rfl | fail "k_enter: no rule for these arguments"); (case kBe => exact rfl); (case kB => exact fun _ => rfl); (case kB2 => exact rfl); (case kD => decide +kernel); (case c2 => exact rfl); (case c3 => exact rfl); (case c4 => exact rfl); k_whole; intro g' L' h' tk' cells' FG' F' N' Y' B' X' T' l1; (try k_lt l1); k_cells Y'; (try simp only [List.cons_append, List.nil_append] at N'); (try dsimp only); (try k_lift B'); (try k_fold)))
local macro_rules | `(tactic| walk_at "newList") => `(tactic| (k_here; k_dflt (refine' newList_K ?k1 ?k2 ?_; (case k1 => k_asm); (case k2 => k_asm); k_whole); intro l' h' F' N' l1; (try k_lt l1); (first
  | (have la9 : AllLt _ _ := l1; have lo9 := allLt_ne la9) | (have la9 : AllLt _ _ := l1.2; have lo9 := allLt_ne la9) | (have la9 : AllLt _ _ := l1.2.2; have lo9 := allLt_ne la9) | (have la9 : AllLt _ _ := l1.2.2.2; have lo9 := allLt_ne la9) | (have la9 : AllLt _ _ := l1.2.2.2.2; have lo9 := allLt_ne la9) | (have la9 : AllLt _ _ := l1.2.2.2.2.2; have lo9 := allLt_ne la9) | (have la9 : AllLt _ _ := l1.2.2.2.2.2.2; have lo9 := allLt_ne la9)
  | (have la9 : AllLt _ _ := l1.2.2.2.2.2.2.2; have lo9 := allLt_ne la9) | (have la9 : AllLt _ _ := l1.2.2.2.2.2.2.2.2; have lo9 := allLt_ne la9) | (have la9 : AllLt _ _ := l1.2.2.2.2.2.2.2.2.2; have lo9 := allLt_ne la9) | (have la9 : AllLt _ _ := l1.2.2.2.2.2.2.2.2.2.2; have lo9 := allLt_ne la9) | (have la9 : AllLt _ _ := l1.2.2.2.2.2.2.2.2.2.2.2; have lo9 := allLt_ne la9) | (have la9 : AllLt _ _ := l1.2.2.2.2.2.2.2.2.2.2.2.2; have lo9 := allLt_ne la9)
  | (have la9 : AllLt _ _ := l1.2.2.2.2.2.2.2.2.2.2.2.2.2; have lo9 := allLt_ne la9) | (have la9 : AllLt _ _ := l1.2.2.2.2.2.2.2.2.2.2.2.2.2.2; have lo9 := allLt_ne la9) | (have la9 : AllLt _ _ := l1.2.2.2.2.2.2.2.2.2.2.2.2.2.2.2; have lo9 := allLt_ne la9) | skip); (try k_sweep)))

local macro_rules | `(tactic| k_all) => `(tactic| assumption)
local macro_rules | `(tactic| walk_at "truthy str") => `(tactic| (k_here; (first | (with_reducible refine my_tr1 ?_) | (with_reducible refine my_tr0 ?_)); intro tk9))
local macro_rules | `(tactic| walk_at "subscriptTail Name Constant ref int") => `(tactic| (k_here; (with_reducible show wpAny _ _ (subscriptTail _ _ (Value.ref _) (Value.int 0 _)) _ _ _); k_dflt (refine' my_first ?N ?m ?_; (case N => k_asm); (case m => k_mem); k_whole)))
local macro_rules | `(tactic| walk_at "callWith") => `(tactic| (k_here; (with_reducible show wpAny _ _ (callWith _ (Value.builtin _) (_ :: _) (backTo _ (starEach (_ :: _) _)) []) _ _ _); refine callWith_method1 ?_))
local macro_rules | `(tactic| walk_at "subscriptTail Name Constant ref int") => `(tactic| (k_here; (with_reducible show wpAny _ _ (subscriptTail _ _ (Value.ref _) (Value.int 0 _)) _ _ _); k_dflt (refine' my_item0 ?N ?m ?_; (case N => k_asm); (case m => k_mem); k_whole)))
local macro_rules | `(tactic| walk_at "subscriptTail Name Constant ref int") => `(tactic| (k_here; (with_reducible show wpAny _ _ (subscriptTail _ _ (Value.ref _) (Value.int 1 _)) _ _ _); k_dflt (refine' my_item1 ?N ?m ?_; (case N => k_asm); (case m => k_mem); k_whole)))
local macro_rules | `(tactic| walk_at "subscriptTail Name Constant ref int") => `(tactic| (k_here; (with_reducible show wpAny _ _ (subscriptTail _ _ (Value.ref _) (Value.int 2 _)) _ _ _); k_dflt (refine' my_item2 ?N ?m ?_; (case N => k_asm); (case m => k_mem); k_whole)))
local macro_rules | `(tactic| walk_at $s:str) => `(tactic| k_extra $s)
section
variable {w : World} {p : Program} {loose : List Str} {mean : ExcName → Option Value} {mg mb : Str → Option Value}
  {dp un : Nat} {gd : Option (List Code)} {cn : Str} {cs : Scope} {a : Addr} {ccd : Value} {cl : List (Str × Addr)} {outer : List Env} {A₀ : Around} {base h₀ : Heap} {L : Addr} {m : Str → Option Value} {s : Shared} {Q E : Value → Shared → Prop}
noncomputable abbrev ktrH (xh : Value) (dp un : Nat) (gd : Option (List Code)) (cn : Str) (cs : Scope) (L a : Addr) (ccd : Value) (cl : List (Str × Addr)) (outer : List Env) : Around := { handled := some xh, depth := dp, frames := some (envX cn cs L a ccd cl :: outer), guards := gd, units := un }
theorem soundH_spec {R : List (Addr × Obj)} {l nn : Nat} {vs : List Value} {ts : List Tk} {xh : Value} (hno : sound ts = false)
    (B : Below A₀ base outer h₀) (F : Fr h₀ L s.heap m) (X : (hd.heap_39 w.params).In h₀) (N : News h₀ L s.heap R)
    (T : Top p loose mean mg mb h₀) (hk : cs.kind = .function) (hdp : dp + 2 < recursionLimit) (hu : un + 16 < cLine)
    (hl : (l, W.listOf vs.toArray nn) ∈ R) (hd : DatAll R vs (ts.map Tk.rd)) (hok : ∀ t ∈ ts, okTk t) (hz : szs ts ≤ 900)
    (ret : ∀ h' tk', Fr h₀ L h' m → News h₀ L h' R → Q (.bool (sound ts)) { s with heap := h', toks := tk' }) :
    wpAny (model PySem.Challenge.rw_wx0001_01.row.prog w) (ktrH xh dp un gd cn cs L a ccd cl outer) (call (.ref 140) [.ref l]) Q E s := by
  revert X B F T; k_fill; intro B F X T
  k_with_none
  k_with "exec For Name Name cons nil" => (
    (with_unfolding_all refine' For_seek ?_))
  k_with "pyIter ref" => (
    (rename News _ _ _ _ => N0); (rename Fr _ _ _ _ => F0)
    refine sound_seek ts hno F0 N0 hl hd hok hz (fun i v own u h9 tk9 hc hoff F9 N9 => ?_)
    all_goals clear F0 N0
    all_goals (try (rcases hc with ⟨x, b, t0, t1, e, rfl, hm, he⟩ | ⟨c, n, b, t0, t1, t2, e, rfl, hm, hc9, hn9, he, hbad⟩)))
  k_with "call builtin:str.index" => (
    with_reducible refine my_index (by assumption) ?_)
  k_with "subscriptTail Name Call ref int" => (
    k_dflt (refine' my_lens ?F ?X ?c ?_)
    (case F => k_asm)
    (case X => k_asm)
    (case c => assumption)
    intro tl)
  refine wpAny_call ?_
  k_dflt cell_enter
  k_steps
  all_goals (try (dsimp only [SPost, MPost]; (try k_steps)))
  all_goals (rename Fr _ _ _ _ => Fz; rename News _ _ _ _ => Nz)
  all_goals first
    | (have e9 := hbad (lens_gt (by assumption) (by assumption)); rw [e9] at ret; exact ret _ _ Fz fun p hp => Nz p (List.mem_append_left _ hp))
    | (have e9 := hbad (lens_in (b := true) (by assumption) (by assumption) (by assumption)); rw [e9] at ret; exact ret _ _ Fz fun p hp => Nz p (List.mem_append_left _ hp))
    | (refine sound_end Fz Nz hoff (by first | exact he | (rw [he]; exact lens_none (by assumption)) | (rw [he]; exact lens_in (b := false) (by assumption) (by assumption) (by assumption))) ?_
       intro z h2
       have h3 := h2
       simp only [List.contains_cons, List.contains_nil, Bool.or_false, Bool.or_eq_false_iff, beq_eq_false_iff_ne, ne_eq] at h2
       simp only [kstB, h2, h3, if_false, Bool.false_eq_true])

end
end Mine

-- MClearP
namespace Mine
set_option maxRecDepth 100000
set_option maxHeartbeats 8000000
noncomputable def clrT : Tk → Bool
  | .ch x => !x.contains 39 || x.any isF
  | .fd _ _ => true
theorem clear_all (r : List Tk) : clear r = r.all clrT := by
  unfold clear
  congr 1
theorem clear_take {ts : List Tk} {i : Nat} {t : Tk} (h : ts[i]? = some t) (hs : clear (ts.take i) = true) : clear (ts.take (i + 1)) = clrT t := by
  rw [clear_all] at hs ⊢
  rw [List.take_add_one, h]
  simp [hs]
theorem clear_bad {ts : List Tk} {i : Nat} {t : Tk} (h : ts[i]? = some t) (hs : clrT t = false) : clear ts = false := by
  rw [clear_all, List.all_eq_false]
  exact ⟨t, List.mem_of_getElem? h, by simp [hs]⟩
inductive CC (R : List (Addr × Obj)) (ts : List Tk) (i : Nat) (v : Value) : Prop where
  | ch (x : List Nat) (b t0 t1 e : Nat) : v = .ref b → (b, W.listOf #[.str (PySem.Str.ofString "chars") t0, .str (S x) t1] e) ∈ R → x.length ≤ 900 → clear (ts.take (i + 1)) = (!x.contains 39 || x.any isF) → (x.contains 39 = true → x.any isF = false → clear ts = false) → CC R ts i v
  | fd (c n : Nat) (b t0 t1 t2 e : Nat) : v = .ref b → (b, W.listOf #[.str (PySem.Str.ofString "field") t0, .str (S [c]) t1, .int n t2] e) ∈ R → clear (ts.take (i + 1)) = true → CC R ts i v
theorem clear_cases {R own : List (Addr × Obj)} {vs : List Value} {ts : List Tk} {i : Nat} {v : Value} (hd : DatAll R vs (ts.map Tk.rd)) (hv : vs[i]? = some v) (hz : szs ts ≤ 900) (hs : clear (ts.take i) = true) : CC (R ++ own) ts i v := by
  obtain ⟨t, ht, hT⟩ := gis_at hd hv
  have hT1 := gis_mono hT (R' := R ++ own) fun p hp => List.mem_append_left _ hp
  have h1 := clear_take ht hs
  have h2 := szs_at ht
  cases hT1 with
  | @ch x a t0 t1 k hm =>
    refine .ch x a t0 t1 k rfl hm (by simp only [Tk.sz] at h2; omega) h1 fun e1 e2 => clear_bad ht ?_
    simp only [clrT, e1, e2]; rfl
  | @fd c n a t0 t1 t2 k hm => exact .fd c n a t0 t1 t2 k rfl hm h1
noncomputable abbrev clrSt : List Str := [PySem.Str.ofString "token", PySem.Str.ofString "marked", PySem.Str.ofString "sign"]
noncomputable abbrev CPost (R : List (Addr × Obj)) (ts : List Tk) (g : Heap) (L : Addr) (s : Shared) (m₀ : Str → Option Value) (own : List (Addr × Obj)) (Q : Flow → Shared → Prop) (i : Nat) : Flow → Shared → Prop :=
  MPost (σ := Unit) g L s (fun _ => R) (fun _ => []) (fun i _ => clear (ts.take i) = true) clrSt m₀ own Q i
theorem clear_end {R own : List (Addr × Obj)} {ts : List Tk} {g : Heap} {L : Addr} {s : Shared} {m₀ m' : Str → Option Value} {i : Nat} {h' : Heap} {tk : Nat}
    (F : Fr g L h' m') (N : News g L h' (R ++ own)) (ho : OwnOff own (R.map (·.1))) (he : clear (ts.take (i + 1)) = true)
    (hr : ∀ z, clrSt.contains z = false → m' z = m₀ z) :
    MEnd (σ := Unit) g L s (fun _ => R) (fun _ => []) (fun i _ => clear (ts.take i) = true) clrSt m₀ own (i + 1) { s with heap := h', toks := tk } :=
  mend (σ := Unit) () F N (fun _ hp => List.mem_append_left _ hp) (fun _ hp => List.mem_append_right _ hp) ho he (fun _ hp => nomatch hp) (fun z _ h => hr z h)
theorem clear_loop {prog : Program} {w : World} {A : Around} {E : Value → Shared → Prop} {Q : Flow → Shared → Prop} {s : Shared} {env : Env} {g : Heap} {target : Expr} {body : List Stmt} {m₀ : Str → Option Value} {l : Addr} {nn : Nat} {R : List (Addr × Obj)} {vs : List Value} (ts : List Tk)
    (hh : A.handled = none) (F : Fr g env.locals s.heap m₀) (N : News g env.locals s.heap R) (hl : (l, W.listOf vs.toArray nn) ∈ R) (hd : DatAll R vs (ts.map Tk.rd)) (hz : szs ts ≤ 900)
    (turn : ∀ (i : Nat) (v : Value) (own : List (Addr × Obj)) (u : Str → Option Value) (h : Heap) (tk : Nat), CC (R ++ own) ts i v → OwnOff own (R.map (·.1)) →
      Fr g env.locals h (kstB (fun z => if clrSt.contains z then u z else m₀ z) []) → News g env.locals h (R ++ own) →
      wpAny (model prog w) A (assign target env v) (fun _ s₃ => wpAny (model prog w) A (execs body env) (CPost R ts g env.locals { s with heap := h, toks := tk } m₀ own Q (i + 1)) E s₃) E { s with heap := h, toks := tk })
    (done : ∀ (u : Str → Option Value) h tk, clear ts = true → Fr g env.locals h (kstB (fun z => if clrSt.contains z then u z else m₀ z) []) → News g env.locals h R → Q .next { s with heap := h, toks := tk }) :
    wpAny (model prog w) A (pyIter (.ref l)) (fun it s₂ => TurnsAt prog w A g env target body Q E it s₂) E s := by
  refine mlist (σ := Unit) (fun _ => R) (fun _ => []) (fun i _ => clear (ts.take i) = true) clrSt () hh (fun _ _ _ => hl) F N rfl (fun p hp => nomatch hp) ?_ ?_
  · intro i v c u h tk own hv hf ho F' N'
    exact turn i v own u h tk (clear_cases hd hv hz hf) ho F' N'
  · intro c u h tk hf F' N'
    refine done u h tk ?_ F' N'
    have hlen := hd.length
    rw [List.length_map] at hlen
    rw [hlen, List.take_length] at hf
    exact hf
noncomputable abbrev IPost (R : List (Addr × Obj)) (x : List Nat) (g : Heap) (L : Addr) (s : Shared) (m₀ : Str → Option Value) (own : List (Addr × Obj)) (Q : Flow → Shared → Prop) (i : Nat) : Flow → Shared → Prop :=
  MPost (σ := Bool) g L s (fun _ => R) (fun b => [(PySem.Str.ofString "marked", .bool b)]) (fun i b => b = (x.take i).any isF) [PySem.Str.ofString "sign"] m₀ own Q i
theorem any_take {x : List Nat} {i d : Nat} (h : x[i]? = some d) : (x.take (i + 1)).any isF = ((x.take i).any isF || isF d) := by
  rw [List.take_add_one, h]; simp
theorem inner_end {R own : List (Addr × Obj)} {x : List Nat} {g : Heap} {L : Addr} {s : Shared} {m₀ m' : Str → Option Value} {i d : Nat} {b b' : Bool} {h' : Heap} {tk : Nat} (hx : x[i]? = some d) (hb : b = (x.take i).any isF) (he : b' = (b || isF d))
    (F : Fr g L h' m') (N : News g L h' (R ++ own)) (ho : OwnOff own (R.map (·.1))) (h1 : m' (PySem.Str.ofString "marked") = some (.bool b'))
    (hr : ∀ z, z ≠ PySem.Str.ofString "marked" → z ≠ PySem.Str.ofString "sign" → m' z = m₀ z) :
    MEnd (σ := Bool) g L s (fun _ => R) (fun b => [(PySem.Str.ofString "marked", .bool b)]) (fun i b => b = (x.take i).any isF) [PySem.Str.ofString "sign"] m₀ own (i + 1) { s with heap := h', toks := tk } :=
  mend (σ := Bool) b' F N (fun _ hp => List.mem_append_left _ hp) (fun _ hp => List.mem_append_right _ hp) ho (by rw [any_take hx, ← hb]; exact he)
    (fun p hp => by
      simp only [List.mem_cons, List.not_mem_nil, or_false] at hp
      subst hp
      exact h1)
    (fun z h2 h3 => hr z (h2 _ (.head _)) (by simpa using h3))
theorem inner_loop {prog : Program} {w : World} {A : Around} {E : Value → Shared → Prop} {Q : Flow → Shared → Prop} {s : Shared} {env : Env} {g : Heap} {tn : Str} {tp : Pos} {body : List Stmt} {m₀ : Str → Option Value} {tx : Tok} {R : List (Addr × Obj)} (x : List Nat)
    (hh : A.handled = none) (F : Fr g env.locals s.heap m₀) (N : News g env.locals s.heap R) (h1 : m₀ (PySem.Str.ofString "marked") = some (.bool false))
    (turn : ∀ (i d : Nat) (td : Tok) (b : Bool) (own : List (Addr × Obj)) (u : Str → Option Value) (h : Heap) (tk : Nat), x[i]? = some d → b = (x.take i).any isF → OwnOff own (R.map (·.1)) →
      Fr g env.locals h (kstB (fun z => if [PySem.Str.ofString "sign"].contains z then u z else m₀ z) [(PySem.Str.ofString "marked", .bool b)]) → News g env.locals h (R ++ own) →
      wpAny (model prog w) A (assign (.Name tn tp) env (.str (S [d]) td)) (fun _ s₃ => wpAny (model prog w) A (execs body env) (IPost R x g env.locals { s with heap := h, toks := tk } m₀ own Q (i + 1)) E s₃) E { s with heap := h, toks := tk })
    (done : ∀ (b : Bool) (u : Str → Option Value) h tk, b = x.any isF → Fr g env.locals h (kstB (fun z => if [PySem.Str.ofString "sign"].contains z then u z else m₀ z) [(PySem.Str.ofString "marked", .bool b)]) → News g env.locals h R → Q .next { s with heap := h, toks := tk }) :
    wpAny (model prog w) A (pyIter (.str (S x) tx)) (fun it s₂ => TurnsAt prog w A g env (.Name tn tp) body Q E it s₂) E s := by
  refine mstr (σ := Bool) (fun _ => R) (fun b => [(PySem.Str.ofString "marked", .bool b)]) (fun i b => b = (x.take i).any isF) [PySem.Str.ofString "sign"] false hh F N rfl (fun p hp => ?_) ?_ ?_
  · simp only [List.mem_cons, List.not_mem_nil, or_false] at hp
    subst hp
    exact h1
  · intro i d td b u h tk own hd hf ho F' N'
    exact turn i d td b own u h tk hd hf ho F' N'
  · intro b u h tk hf F' N'
    rw [List.take_length] at hf
    exact done b u h tk hf F' N'
theorem has_q {x : List Nat} {b : Bool} (h : (PySem.Builtin.Str.occurrences (S x) (PySem.Str.ofString "'") 0 (S x).length 1).isEmpty = b) : x.contains 39 = !b := by
  have h2 := PySem.StrLaws.found_one (S x) 39
  rw [show (⟨#[39]⟩ : Str) = PySem.Str.ofString "'" from rfl, h, S_cps] at h2
  rw [h2]
  by_cases h3 : 39 ∈ x
  · rw [List.contains_iff_mem.mpr h3, decide_eq_true h3]
  · rw [decide_eq_false h3]
    cases h5 : x.contains 39 with
    | false => rfl
    | true => exact absurd (List.contains_iff_mem.mp h5) h3
theorem in_let {d : Nat} {b : Bool} (h : (PySem.Builtin.Str.occurrences (PySem.Str.ofString "yMdEcHOFS") (S [d]) 0 (PySem.Str.ofString "yMdEcHOFS").length 1).isEmpty = b) : isF d = !b := by
  rw [← in_letters, h]
section
variable {w : World} {p : Program} {loose : List Str} {mean : ExcName → Option Value} {mg mb : Str → Option Value}
  {dp un : Nat} {gd : Option (List Code)} {cn : Str} {cs : Scope} {a : Addr} {ccd : Value} {cl : List (Str × Addr)} {outer : List Env} {A₀ : Around} {base h₀ : Heap} {L : Addr} {m : Str → Option Value} {s : Shared} {Q E : Value → Shared → Prop}

end
end Mine

-- MClear
namespace Mine
set_option maxRecDepth 100000
set_option maxHeartbeats 8000000
local macro_rules | `(tactic| walk_at "MY_PAD0") => `(tactic| fail)
local macro_rules | `(tactic| walk_at "MY_PAD1") => `(tactic| fail)
local macro_rules | `(tactic| walk_at "MY_PAD2") => `(tactic| fail)
local macro_rules | `(tactic| walk_at "MY_PAD3") => `(tactic| fail)
local macro_rules | `(tactic| walk_at "MY_PAD4") => `(tactic| fail)
local macro_rules | `(tactic| walk_at "MY_PAD5") => `(tactic| fail)
local macro_rules | `(tactic| walk_at "MY_PAD6") => `(tactic| fail)
local macro_rules | `(tactic| walk_at "MY_PAD7") => `(tactic| fail)
local macro_rules | `(tactic| walk_at "MY_PAD8") => `(tactic| fail)
local macro_rules | `(tactic| walk_at "MY_PAD9") => `(tactic| fail)
local macro_rules | `(tactic| walk_at "MY_PAD10") => `(tactic| fail)
local macro_rules | `(tactic| walk_at "MY_PAD11") => `(tactic| fail)
local macro_rules | `(tactic| walk_at "MY_PAD12") => `(tactic| fail)
local macro_rules | `(tactic| walk_at "MY_PAD13") => `(tactic| fail)
local macro_rules | `(tactic| walk_at "MY_PAD14") => `(tactic| fail)
theorem reset_MClear : True := by
  w_top off
  k_with_none
  trivial
local macro_rules | `(tactic| walk_at "truthy ref") => `(tactic| (k_here; (with_reducible show wpAny _ _ (truthy (Value.ref _)) _ _ _); k_dflt (refine' my_truthyS ?N ?m ?f ?_; (case N => k_asm); (case m => k_mem); (case f => omega); k_whole; intro tk9)))
local macro_rules | `(tactic| walk_at "subscriptTail Name UnaryOp ref int") => `(tactic| (k_here; (with_reducible show wpAny _ _ (subscriptTail _ _ (Value.ref _) (Value.int (-1) _)) _ _ _); k_dflt (refine' my_last ?N ?m ?_; (case N => k_asm); (case m => k_mem); k_whole)))
local macro_rules | `(tactic| k_mem) => `(tactic| assumption)
local macro_rules | `(tactic| walk_at "exec For") => `(tactic| (k_here; (rename Fr _ _ _ _ => lF'); (with_unfolding_all refine' For_turns lF' ?_); k_whole; walk_say "MY FOR"))
local macro_rules | `(tactic| walk_at "MY_ENTERC") => `(tactic| k_dflt (refine' code_defC1 (PySem.Str.ofString "pattern") _ ?k1 ?k2 ?k3 ?k4 ?k5 ?kA ?kF ?kK ?k6 ?k7 ?k8 ?k9 ?kBe ?kB ?kB2 ?kD ?_ ?c2 ?c3 ?c4; (case kA => exact rfl); (case kF => exact rfl); (case kK => assumption); (case k1 => k_asm); (case k2 => k_asm); (case k3 => k_asm); (case k4 => k_asm); (case k5 => k_asm); (case k6 => k_is); (case k7 => k_is); (case k8 => ktr_room); (case k9 => first | exact BindsTo.of_eq rfl | exact binds_K (by k_in) rfl (by k_is) rfl rfl rfl | fail "k_enter: no rule for these arguments"); (case kBe => exact rfl); (case kB => exact fun _ => rfl); (case kB2 => exact rfl); (case kD => decide +kernel); (case c2 => exact rfl); (case c3 => exact rfl); (case c4 => exact rfl); k_whole; intro g' L' h' tk' cells' FG' F' N' Y' B' X' T' l1; (try k_lt l1); k_cells Y'; (try simp only [List.cons_append, List.nil_append] at N'); (try dsimp only); (try k_lift B'); (try k_fold)))
local macro_rules | `(tactic| walk_at "newList") => `(tactic| (k_here; k_dflt (refine' newList_K ?k1 ?k2 ?_; (case k1 => k_asm); (case k2 => k_asm); k_whole); intro l' h' F' N' l1; (try k_lt l1); (first
  | (have la9 : AllLt _ _ := l1; have lo9 := allLt_ne la9) | (have la9 : AllLt _ _ := l1.2; have lo9 := allLt_ne la9) | (have la9 : AllLt _ _ := l1.2.2; have lo9 := allLt_ne la9) | (have la9 : AllLt _ _ := l1.2.2.2; have lo9 := allLt_ne la9) | (have la9 : AllLt _ _ := l1.2.2.2.2; have lo9 := allLt_ne la9) | (have la9 : AllLt _ _ := l1.2.2.2.2.2; have lo9 := allLt_ne la9) | (have la9 : AllLt _ _ := l1.2.2.2.2.2.2; have lo9 := allLt_ne la9)
  | (have la9 : AllLt _ _ := l1.2.2.2.2.2.2.2; have lo9 := allLt_ne la9) | (have la9 : AllLt _ _ := l1.2.2.2.2.2.2.2.2; have lo9 := allLt_ne la9) | (have la9 : AllLt _ _ := l1.2.2.2.2.2.2.2.2.2; have lo9 := allLt_ne la9) | (have la9 : AllLt _ _ := l1.2.2.2.2.2.2.2.2.2.2; have lo9 := allLt_ne la9) | (have la9 : AllLt _ _ := l1.2.2.2.2.2.2.2.2.2.2.2; have lo9 := allLt_ne la9) | (have la9 : AllLt _ _ := l1.2.2.2.2.2.2.2.2.2.2.2.2; have lo9 := allLt_ne la9)
  | (have la9 : AllLt _ _ := l1.2.2.2.2.2.2.2.2.2.2.2.2.2; have lo9 := allLt_ne la9) | (have la9 : AllLt _ _ := l1.2.2.2.2.2.2.2.2.2.2.2.2.2.2; have lo9 := allLt_ne la9) | (have la9 : AllLt _ _ := l1.2.2.2.2.2.2.2.2.2.2.2.2.2.2.2; have lo9 := allLt_ne la9) | skip); (try k_sweep)))

local macro_rules | `(tactic| k_all) => `(tactic| assumption)
local macro_rules | `(tactic| walk_at "truthy str") => `(tactic| (k_here; (first | (with_reducible refine my_tr1 ?_) | (with_reducible refine my_tr0 ?_)); intro tk9))
local macro_rules | `(tactic| walk_at "subscriptTail Name Constant ref int") => `(tactic| (k_here; (with_reducible show wpAny _ _ (subscriptTail _ _ (Value.ref _) (Value.int 0 _)) _ _ _); k_dflt (refine' my_first ?N ?m ?_; (case N => k_asm); (case m => k_mem); k_whole)))
local macro_rules | `(tactic| walk_at "callWith") => `(tactic| (k_here; (with_reducible show wpAny _ _ (callWith _ (Value.builtin _) (_ :: _) (backTo _ (starEach (_ :: _) _)) []) _ _ _); refine callWith_method1 ?_))
local macro_rules | `(tactic| walk_at "subscriptTail Name Constant ref int") => `(tactic| (k_here; (with_reducible show wpAny _ _ (subscriptTail _ _ (Value.ref _) (Value.int 0 _)) _ _ _); k_dflt (refine' my_item0 ?N ?m ?_; (case N => k_asm); (case m => k_mem); k_whole)))
local macro_rules | `(tactic| walk_at "subscriptTail Name Constant ref int") => `(tactic| (k_here; (with_reducible show wpAny _ _ (subscriptTail _ _ (Value.ref _) (Value.int 1 _)) _ _ _); k_dflt (refine' my_item1 ?N ?m ?_; (case N => k_asm); (case m => k_mem); k_whole)))
local macro_rules | `(tactic| walk_at "subscriptTail Name Constant ref int") => `(tactic| (k_here; (with_reducible show wpAny _ _ (subscriptTail _ _ (Value.ref _) (Value.int 2 _)) _ _ _); k_dflt (refine' my_item2 ?N ?m ?_; (case N => k_asm); (case m => k_mem); k_whole)))
local macro_rules | `(tactic| walk_at $s:str) => `(tactic| k_extra $s)
section
variable {w : World} {p : Program} {loose : List Str} {mean : ExcName → Option Value} {mg mb : Str → Option Value}
  {dp un : Nat} {gd : Option (List Code)} {cn : Str} {cs : Scope} {a : Addr} {ccd : Value} {cl : List (Str × Addr)} {outer : List Env} {A₀ : Around} {base h₀ : Heap} {L : Addr} {m : Str → Option Value} {s : Shared} {Q E : Value → Shared → Prop}
theorem clear_spec {R : List (Addr × Obj)} {l nn : Nat} {vs : List Value} {ts : List Tk}
    (B : Below A₀ base outer h₀) (F : Fr h₀ L s.heap m) (X : (hd.heap_39 w.params).In h₀) (N : News h₀ L s.heap R)
    (T : Top p loose mean mg mb h₀) (hk : cs.kind = .function) (hdp : dp + 2 < recursionLimit) (hu : un + 16 < cLine)
    (hl : (l, W.listOf vs.toArray nn) ∈ R) (hd : DatAll R vs (ts.map Tk.rd)) (hz : szs ts ≤ 900)
    (ret : ∀ h' tk', Fr h₀ L h' m → News h₀ L h' R → Q (.bool (clear ts)) { s with heap := h', toks := tk' }) :
    wpAny (model PySem.Challenge.rw_wx0001_01.row.prog w) (ktrTop dp un gd cn cs L a ccd cl outer) (call (.ref 147) [.ref l]) Q E s := by
  revert X B F T; k_fill; intro B F X T
  k_with_none
  k_with "exec For Name Name cons nil" => (
    (rename Fr _ _ _ _ => lF')
    (with_unfolding_all refine' For_turns lF' ?_))
  k_with "exec For Name Subscript cons nil" => (
    (rename Fr _ _ _ _ => lF')
    (with_unfolding_all refine' For_turns lF' ?_))
  k_with "pyIter ref" => (
    (rename News _ _ _ _ => N0); (rename Fr _ _ _ _ => F0)
    refine clear_loop ts rfl F0 N0 hl hd hz (fun i v own u h9 tk9 hc hoff F9 N9 => ?_) (fun u h9 tk9 hsn F9 N9 => ?_)
    all_goals clear F0 N0
    all_goals (try (rcases hc with ⟨x, b, t0, t1, e, rfl, hm, hxl, he, hbad⟩ | ⟨c, n, b, t0, t1, t2, e, rfl, hm, he⟩)))
  k_with "pyIter str" => (
    (rename News _ _ _ _ => N0); (rename Fr _ _ _ _ => F0)
    refine inner_loop x rfl F0 N0 rfl (fun j d td bm own2 u2 h8 tk8 hd9 hb9 hoff2 F8 N8 => ?_) (fun bm u2 h8 tk8 hb9 F8 N8 => ?_)
    all_goals clear F0 N0
    all_goals (cases bm))
  refine wpAny_call ?_
  k_dflt cell_enter
  k_steps
  all_goals (try (dsimp only [CPost, IPost, MPost]; (try k_steps)))
  all_goals (rename Fr _ _ _ _ => Fz; rename News _ _ _ _ => Nz)
  all_goals first
    | (rw [hsn] at ret; exact ret _ _ Fz Nz)
    | (have e9 := hbad (has_q (b := false) (by assumption)) hb9.symm; rw [e9] at ret; exact ret _ _ Fz fun p hp => Nz p (List.mem_append_left _ hp))
    | (exact inner_end hd9 hb9 (by first | rfl | (rw [in_letters]; rfl)) Fz Nz hoff2 rfl (by
         intro z h1 h2
         have h3 : [PySem.Str.ofString "sign"].contains z = false := by simp [h2]
         simp only [kstB, h1, h2, h3, if_false, Bool.false_eq_true]))
    | (exact clear_end Fz Nz hoff (by first | exact he | (rw [he, has_q (b := true) (by assumption)]; rfl) | (rw [he, ← hb9, Bool.or_true])) (by
         intro z h2
         have h3 := h2
         simp only [clrSt, List.contains_cons, List.contains_nil, Bool.or_false, Bool.or_eq_false_iff, beq_eq_false_iff_ne, ne_eq] at h2
         obtain ⟨h4, h5, h6⟩ := h2
         have h7 : [PySem.Str.ofString "sign"].contains z = false := by simp [h6]
         simp only [kstB, h3, h4, h5, h6, h7, if_false, Bool.false_eq_true]))

end
end Mine

-- MJoinS
namespace Mine
set_option maxRecDepth 100000
set_option maxHeartbeats 8000000
noncomputable abbrev txs (xs : List (List Nat)) : List Dat := xs.map fun x => .str (S x)
noncomputable def lenS (xs : List (List Nat)) : Nat := (xs.map List.length).sum
theorem lenS_snoc (xs : List (List Nat)) (x : List Nat) : lenS (xs ++ [x]) = lenS xs + x.length := by simp [lenS]
theorem strs_ofS : ∀ {xs : List (List Nat)} {cv : List Value}, DatAll [] cv (txs xs) → ∃ l : List (Str × Tok), cv = strValues l ∧ l.map (·.1) = xs.map fun x => S x
  | [], cv, h => ⟨[], by
      have hl := h.length
      simp only [txs, List.map_nil, List.length_nil] at hl
      rw [List.length_eq_zero_iff.mp hl]; rfl, rfl⟩
  | d :: xs, cv, h => by
    cases h with
    | cons h1 h2 =>
      cases h1 with
      | str x t =>
        obtain ⟨l, e1, e2⟩ := strs_ofS (xs := xs) h2
        exact ⟨(S d, t) :: l, by rw [e1]; rfl, by simp [e2]⟩
theorem join_S (xs : List (List Nat)) : Txt.join (PySem.Str.ofString "") (xs.map fun x => S x) = S xs.flatten := by
  unfold Txt.join
  rw [StrLaws.glued_eq_join]
  induction xs with
  | nil => rfl
  | cons d l ih =>
    cases l with
    | nil => show S d = _; simp
    | cons e l =>
      show S d ++ PySem.Str.ofString "" ++ Str.join (PySem.Str.ofString "") ((e :: l).map fun x => S x) = _
      rw [ih, show PySem.Str.ofString "" = S [] from rfl, S_append, S_append]
      simp
theorem joinOk_S {xs : List (List Nat)} (hl : lenS xs ≤ 100000) : JoinOk (PySem.Str.ofString "") (xs.map fun x => S x) = true := by
  have : ∀ (xs : List (List Nat)) (k : Nat), (xs.map fun x => S x).foldl (fun a (p : Str) => a + p.length + (PySem.Str.ofString "").length) k = k + lenS xs := by
    intro xs
    induction xs with
    | nil => intro k; rfl
    | cons d l ih => intro k; rw [List.map_cons, List.foldl_cons, ih, S_length]; have : (PySem.Str.ofString "").length = 0 := rfl; rw [this]; simp only [lenS, List.map_cons, List.sum_cons]; omega
  unfold JoinOk
  rw [Bool.not_eq_true', List.foldl_toArray, this]
  unfold Builtin.Str.tooLong sizeLine
  have e : (2 : Nat) ^ 24 = 16777216 := by decide
  exact decide_eq_false (by omega)
theorem my_joinS {M : World} {A : Around} {h₀ : Heap} {L o : Addr} {news : List (Addr × Obj)} {prog : Program} {s : Shared} {E : Value → Shared → Prop} {cv : List Value} {xs : List (List Nat)} {n t : Nat} {Q : Value → Shared → Prop}
    (N : News h₀ L s.heap news) (hm : (o, W.listOf cv.toArray n) ∈ news) (hd : DatAll [] cv (txs xs)) (hl : lenS xs ≤ 100000) (h : ∀ t' k, s.toks ≤ k → Q (.str (S xs.flatten) t') { s with toks := k }) : wpAny (model prog M) A (call (.builtin "str.join") [.str (PySem.Str.ofString "") t, .ref o]) Q E s := by
  obtain ⟨l, rfl, e2⟩ := strs_ofS hd
  have hok := joinOk_S hl
  rw [← e2] at hok
  have e3 := join_S xs
  rw [← e2] at e3
  unfold JoinOk at hok
  rw [Bool.not_eq_true'] at hok
  refine call_meets F.slot_str_join (typeIs_str _ _ _) F.entry_str_join (F.args_str_join_2 _ _) (meets_str_join_list _ t o l hok) ⟨⟨_, (N _ hm).1, rfl, n, rfl⟩, my_post l ⟨joinFit_length hok, ?_⟩⟩
  rw [e3]; exact h
theorem txs_snoc {cv : List Value} {xs : List (List Nat)} {x : List Nat} {t : Nat} (h : DatAll [] cv (txs xs)) : DatAll [] (cv ++ [.str (S x) t]) (txs (xs ++ [x])) := by
  unfold txs
  rw [List.map_append]
  exact h.append (.cons (.str _ _) .nil)
section
variable {w : World} {p : Program} {loose : List Str} {mean : ExcName → Option Value} {mg mb : Str → Option Value}
  {dp un : Nat} {gd : Option (List Code)} {cn : Str} {cs : Scope} {a : Addr} {ccd : Value} {cl : List (Str × Addr)} {outer : List Env} {A₀ : Around} {base h₀ : Heap} {L : Addr} {m : Str → Option Value} {s : Shared} {Q E : Value → Shared → Prop}

end
end Mine

-- MPct
namespace Mine
set_option maxRecDepth 100000
set_option maxHeartbeats 8000000
theorem pct_text {y : List Nat} : PySem.Str.ofString "%" ++ PySem.Str.ofString "(" ++ S y ++ PySem.Str.ofString ")s" = S ([37, 40] ++ y ++ [41, 115]) := by
  rw [show PySem.Str.ofString "%" = S [37] from by decide +kernel, show PySem.Str.ofString "(" = S [40] from by decide +kernel, show PySem.Str.ofString ")s" = S [41, 115] from by decide +kernel, S_append, S_append, S_append]
  simp
theorem quo_text {y : List Nat} : PySem.Str.ofString "'" ++ S y ++ PySem.Str.ofString "'" = S ([39] ++ y ++ [39]) := by
  rw [show PySem.Str.ofString "'" = S [39] from by decide +kernel, S_append, S_append]
theorem my_pct {M : World} {A : Around} {prog : Program} {s : Shared} {E : Value → Shared → Prop} {y : List Nat} {t u : Tok} {Q : Value → Shared → Prop} (hy : y.length ≤ 1000) (h : ∀ t' k, Q (.str (S ([37, 40] ++ y ++ [41, 115])) t') { s with toks := k }) :
    wpAny (model prog M) A (binaryOp .Mod (.str (PySem.Str.ofString "%%(%s)s") t) (.str (S y) u)) Q E s := by
  refine' KPc.mod_str (X' := ⟨#[37, 37, 40, 37, 115, 41, 115]⟩) (by decide +kernel) ?b ?c ?_
  case b => rw [S_length]; omega
  case c => k_dflt kpc_run_s
  intro t' k
  rw [← pct_text] at h
  exact h t' k
theorem my_quo {M : World} {A : Around} {prog : Program} {s : Shared} {E : Value → Shared → Prop} {y : List Nat} {t u : Tok} {Q : Value → Shared → Prop} (hy : y.length ≤ 2000) (h : ∀ t' k, Q (.str (S ([39] ++ y ++ [39])) t') { s with toks := k }) :
    wpAny (model prog M) A (binaryOp .Mod (.str (PySem.Str.ofString "'%s'") t) (.str (S y) u)) Q E s := by
  refine' KPc.mod_str (X' := ⟨#[39, 37, 115, 39]⟩) (by decide +kernel) ?b ?c ?_
  case b => rw [S_length]; omega
  case c => k_dflt kpc_run_s
  intro t' k
  rw [← quo_text] at h
  exact h t' k
theorem my_reprS {M : World} {A : Around} {prog : Program} {s : Shared} {E : Value → Shared → Prop} {y : List Nat} {t : Tok} {Q : Value → Shared → Prop} (hy : y.length ≤ 1000) (hs : ∀ c ∈ y, c < 128) (h : (reprText (S y)).length ≤ 10002 → ∀ t' k, Q (.str (reprText (S y)) t') { s with toks := k }) : wpAny (model prog M) A (pyReprObj (.str (S y) t)) Q E s := by
  have h1 := StrLaws.reprText_len (S y) (by
    rw [S_cps]
    intro c hc
    have := hs c hc
    omega)
  have e : (S y).length = y.length := S_length y
  have h2 : (reprText (S y)).length ≤ 10002 := by
    rw [e] at h1
    exact Nat.le_trans h1 (by omega)
  refine pyReprObj_str (h h2 _ _) (hx := ?_)
  rw [sizeLine_eq]
  exact Nat.le_trans h2 (by decide)
section
variable {w : World} {p : Program} {loose : List Str} {mean : ExcName → Option Value} {mg mb : Str → Option Value}
  {dp un : Nat} {gd : Option (List Code)} {cn : Str} {cs : Scope} {a : Addr} {ccd : Value} {cl : List (Str × Addr)} {outer : List Env} {A₀ : Around} {base h₀ : Heap} {L : Addr} {m : Str → Option Value} {s : Shared} {Q E : Value → Shared → Prop}

end
end Mine

-- MCachP
namespace Mine
set_option maxRecDepth 100000
set_option maxHeartbeats 8000000
theorem sound_at {ts : List Tk} {i : Nat} {t : Tk} (h : ts[i]? = some t) (hs : sound (ts.take i) = true) : sound (ts.take (i + 1)) = okT t := sound_take h hs
noncomputable abbrev nine : List Nat := [121, 77, 100, 69, 99, 72, 79, 70, 83]
/-- which way a turn of the parser goes -/
inductive PC (R : List (Addr × Obj)) (ts : List Tk) (i : Nat) (v : Value) : Prop where
  | ch (x : List Nat) (a t0 t1 k : Nat) : v = .ref a → (a, ({ cls := .type "tuple", data := .seq #[.str (PySem.Str.ofString "chars") t0, .str (S x) t1] k } : Obj)) ∈ R → x.length ≤ 900 → sound (ts.take (i + 1)) = true → szs (ts.take i) + (x.length + 1) ≤ szs (ts.take (i + 1)) → PC R ts i v
  | fd (c n a b t0 t1 t2 k k' : Nat) : v = .ref a → (a, ({ cls := .type "tuple", data := .seq #[.str (PySem.Str.ofString "field") t0, .ref b] k } : Obj)) ∈ R → (b, ({ cls := .type "tuple", data := .seq #[.str (S [c]) t1, .int n t2] k' } : Obj)) ∈ R → c ∈ nine → n ≤ 900 →
      sound (ts.take (i + 1)) = okT (.fd c n) → (okT (.fd c n) = false → sound ts = false) → szs (ts.take i) + (n + 1) ≤ szs (ts.take (i + 1)) → PC R ts i v
theorem cch_cases {R own : List (Addr × Obj)} {vs : List Value} {ts : List Tk} {i : Nat} {v : Value} (hd : DatAll R vs (ts.map Tk.tk)) (hv : vs[i]? = some v) (hfd : ∀ c n, Tk.fd c n ∈ ts → c ∈ nine) (hz : szs ts ≤ 900) (hs : sound (ts.take i) = true) : PC (R ++ own) ts i v := by
  obtain ⟨t, ht, hT⟩ := tis_at hd hv
  have hT1 := tis_mono hT (R' := R ++ own) fun p hp => List.mem_append_left _ hp
  have h1 := sound_take ht hs
  have h2 := szs_at ht
  have h3 := szs_take ht
  cases hT1 with
  | @ch x a t0 t1 k hm => exact .ch x a t0 t1 k rfl hm (by simp only [Tk.sz] at h2; omega) h1 (by simp only [Tk.sz] at h3; omega)
  | @fd c n a b t0 t1 t2 k k' hm hm2 => exact .fd c n a b t0 t1 t2 k k' rfl hm hm2 (hfd c n (List.mem_of_getElem? ht)) (by simp only [Tk.sz] at h2; omega) h1 (sound_bad ht) (by simp only [Tk.sz] at h3; omega)
structure PSt where
  rv : List Value
  xs : List (List Nat)
  n : Nat
noncomputable abbrev pLed (lr : Addr) (R : List (Addr × Obj)) (c : PSt) : List (Addr × Obj) := (lr, W.listOf c.rv.toArray c.n) :: R
structure POk (ts : List Tk) (b : Bool) (i : Nat) (c : PSt) : Prop where
  dat : DatAll [] c.rv (txs c.xs)
  len : lenS c.xs ≤ 10 * szs (ts.take i)
  num : c.xs.length ≤ i
  snd : b = true → sound (ts.take i) = true
noncomputable abbrev PPost (ts : List Tk) (b : Bool) (lr : Addr) (R : List (Addr × Obj)) (st : List Str) (g : Heap) (L : Addr) (s : Shared) (m₀ : Str → Option Value) (own : List (Addr × Obj)) (Q : Flow → Shared → Prop) (i : Nat) : Flow → Shared → Prop :=
  MPost (σ := PSt) g L s (pLed lr R) (fun _ => []) (POk ts b) st m₀ own Q i
theorem ptxt_loop {prog : Program} {w : World} {A : Around} {E : Value → Shared → Prop} {Q : Flow → Shared → Prop} {s : Shared} {env : Env} {g : Heap} {target : Expr} {body : List Stmt} {m₀ : Str → Option Value} {l lr : Addr} {nn n0 : Nat} {R : List (Addr × Obj)} {vs : List Value} (ts : List Tk) (b : Bool) (st : List Str)
    (hh : A.handled = none) (F : Fr g env.locals s.heap m₀) (N : News g env.locals s.heap ((lr, W.listOf #[] n0) :: R)) (hl : (l, W.listOf vs.toArray nn) ∈ R) (hlen : vs.length = ts.length) (hz : szs ts ≤ 900) (hlr : ∀ p ∈ R, p.1 ≠ lr)
    (turn : ∀ (i : Nat) (v : Value) (rv : List Value) (xs : List (List Nat)) (n : Nat) (own : List (Addr × Obj)) (u : Str → Option Value) (h : Heap) (tk : Nat) (T : Flow → Shared → Prop), T = PPost ts b lr R st g env.locals { s with heap := h, toks := tk } m₀ own Q (i + 1) → vs[i]? = some v → (b = true → sound (ts.take i) = true) → (∀ p ∈ R ++ own, p.1 ≠ lr) → DatAll [] rv (txs xs) → rv.length ≤ 900 → lenS xs ≤ 9000 →
      (∀ (x : List Nat) (t n' : Nat) m' h' tk' news', Fr g env.locals h' m' → News g env.locals h' news' → (∀ p ∈ (lr, W.listOf (rv ++ [Value.str (S x) t]).toArray n') :: (R ++ own), p ∈ news') → szs (ts.take i) + x.length ≤ 10 * szs (ts.take (i + 1)) - 9 * szs (ts.take i) → (b = true → sound (ts.take (i + 1)) = true) → (∀ z, st.contains z = false → m' z = m₀ z) → T .next { s with heap := h', toks := tk' }) →
      Fr g env.locals h (kstB (fun z => if st.contains z then u z else m₀ z) []) → News g env.locals h ((lr, W.listOf rv.toArray n) :: (R ++ own)) →
      wpAny (model prog w) A (assign target env v) (fun _ s₃ => wpAny (model prog w) A (execs body env) T E s₃) E { s with heap := h, toks := tk })
    (done : ∀ (rv : List Value) (xs : List (List Nat)) (n : Nat) (u : Str → Option Value) h tk, (b = true → sound ts = true) → DatAll [] rv (txs xs) → rv.length ≤ 900 → lenS xs ≤ 9000 → Fr g env.locals h (kstB (fun z => if st.contains z then u z else m₀ z) []) → News g env.locals h ((lr, W.listOf rv.toArray n) :: R) → Q .next { s with heap := h, toks := tk }) :
    wpAny (model prog w) A (pyIter (.ref l)) (fun it s₂ => TurnsAt prog w A g env target body Q E it s₂) E s := by
  have hlz := len_le_szs ts
  refine mlist (σ := PSt) (pLed lr R) (fun _ => []) (POk ts b) st ⟨[], [], n0⟩ hh (fun _ _ _ => .tail _ hl) F N ⟨.nil, Nat.zero_le _, Nat.zero_le _, fun _ => rfl⟩ (fun p hp => nomatch hp) ?_ ?_
  · rintro i v ⟨rv, xs, n⟩ u h tk own hv ⟨h1, h2, h3, h4⟩ ho F' N'
    have hi : i < vs.length := (List.getElem?_eq_some_iff.mp hv).1
    have h5 := szs_take_le ts i
    have h6 := h1.length
    rw [List.length_map] at h6
    dsimp only at h2 h3 h6
    refine turn i v rv xs n own u h tk _ rfl hv h4 ?_ h1 (by omega) (by omega) ?_ F' N'
    · intro p hp
      rcases List.mem_append.mp hp with hp | hp
      · exact hlr p hp
      · exact ho p hp _ (.head _)
    · intro x t n' m' h' tk' news' F2 N2 hN hx hs hr
      refine mend (σ := PSt) ⟨rv ++ [.str (S x) t], xs ++ [x], n'⟩ F2 N2 (fun p hp => hN p ?_) (fun p hp => hN p (.tail _ (List.mem_append_right _ hp))) ?_ ⟨txs_snoc h1, ?_, ?_, hs⟩ (fun p hp => nomatch hp) (fun z _ h => hr z h)
      · rcases List.mem_cons.mp hp with rfl | hp
        · exact .head _
        · exact .tail _ (List.mem_append_left _ hp)
      · exact ho
      · dsimp only
        rw [lenS_snoc]
        omega
      · dsimp only
        rw [List.length_append, List.length_singleton]; omega
  · rintro ⟨rv, xs, n⟩ u h tk ⟨h1, h2, h3, h4⟩ F' N'
    rw [hlen, List.take_length] at h2 h4
    have h6 := h1.length
    rw [List.length_map] at h6
    dsimp only at h2 h3 h6
    exact done rv xs n u h tk h4 h1 (by omega) (by omega) F' N'
theorem rep_pct {x : List Nat} : Txt.replace (S x) (PySem.Str.ofString "%") (PySem.Str.ofString "%%") = S (repL [37] [37, 37] x) := replace_S x [37] [37, 37] (by simp)
theorem pct_len (x : List Nat) : (repL [37] [37, 37] x).length ≤ 2 * x.length := by
  rw [repL_one]
  induction x with
  | nil => simp
  | cons c l ih =>
    rw [List.flatMap_cons, List.length_append, List.length_cons]
    split
    · simp only [List.length_cons, List.length_nil]; omega
    · simp only [List.length_cons, List.length_nil]; omega
theorem mem_tld {c n : Nat} : ∀ {r : List Tk}, Tk.fd c n ∈ r → Tk.fd c n ∈ tld r
  | t :: r, h => by
    show Tk.fd c n ∈ toldStep (tld r) t
    rcases List.mem_cons.mp h with rfl | h
    · exact .head _
    · have ih := mem_tld h
      cases t with
      | fd d k => exact .tail _ ih
      | ch x =>
        show Tk.fd c n ∈ addR x (tld r)
        generalize tld r = q at ih
        cases q with
        | nil => cases ih
        | cons u q =>
          cases u with
          | fd d k => exact .tail _ ih
          | ch y =>
            rcases List.mem_cons.mp ih with e | ih
            · cases e
            · exact .tail _ ih
theorem tok_nine {x : List Nat} {r : List Tk} (ha : ∀ c ∈ x, okSign c = true) (h : readR x false [] = (r, false)) : ∀ c n, Tk.fd c n ∈ (tokR x).reverse → c ∈ nine := by
  intro c n hm
  have h1 := told_tok ha h
  rw [told_rev] at h1
  have h2 := mem_tld (List.mem_reverse.mp hm)
  rw [h1] at h2
  have h3 := readR_nrm x.length x (Nat.le_refl _) ha false [] trivial
  rw [h] at h3
  exact List.contains_iff_mem.mp (nrm_all h3 _ h2).2.1
theorem tok_sound {x : List Nat} {r : List Tk} (ha : ∀ c ∈ x, okSign c = true) (h : readR x false [] = (r, false)) : sound (tokR x).reverse = sound r.reverse := by
  rw [sound_rev, sound_rev, ← told_tok ha h, told_rev, sound_tld]

theorem tabS_mono {ps : Array Value} {R R' : List (Addr × Obj)} (h : TabS ps R) (hs : ∀ p ∈ R, p ∈ R') : TabS ps R' := by
  cases h with
  | nil h => exact .nil h
  | full c1 c2 e h1 h2 =>
    obtain ⟨oc, vs, t, a1, a2, a3⟩ := h1
    obtain ⟨oc', vs', t', b1, b2, b3⟩ := h2
    exact .full c1 c2 e ⟨oc, vs, t, hs _ a1, a2, a3⟩ ⟨oc', vs', t', hs _ b1, b2, b3⟩
noncomputable abbrev noA (lr : Addr) (R : List (Addr × Obj)) : List (Addr × Obj) := R.filter fun p => decide (p.1 ≠ lr)
theorem mem_noA {lr : Addr} {R : List (Addr × Obj)} {p : Addr × Obj} (h : p ∈ R) (hn : p.1 ≠ lr) : p ∈ noA lr R := List.mem_filter.mpr ⟨h, by simpa using hn⟩
theorem code_noA {q : Str} {c lr n0 : Nat} {xs : Array Value} {R : List (Addr × Obj)} {h₀ h : Heap} {L : Addr} (N : News h₀ L h R) (hm : (lr, W.listOf xs n0) ∈ R) (hc : CodeOb q c R) : CodeOb q c (noA lr R) := by
  obtain ⟨oc, vs, t, a1, a2, a3⟩ := hc
  refine ⟨oc, vs, t, mem_noA a1 ?_, a2, a3⟩
  intro e
  dsimp only at e
  subst e
  have e1 := (N _ a1).1
  have e2 := (N _ hm).1
  rw [e2] at e1
  have e3 : W.listOf xs n0 = oc := Option.some.inj e1
  rw [← e3] at a2
  cases a2
theorem tup_noA {lr n0 : Nat} {a : Addr} {xs : Array Value} {o : Obj} {R : List (Addr × Obj)} {h₀ h : Heap} {L : Addr} (N : News h₀ L h R) (hm : (lr, W.listOf xs n0) ∈ R) (ha : (a, o) ∈ R) (ho : o.cls = .type "tuple") : (a, o) ∈ noA lr R := by
  refine mem_noA ha ?_
  intro e
  dsimp only at e
  subst e
  have e1 := (N _ ha).1
  have e2 := (N _ hm).1
  rw [e2] at e1
  have e3 : W.listOf xs n0 = o := Option.some.inj e1
  rw [← e3] at ho
  exact absurd ho (by simp [W.listOf])
theorem dat_noA {lr n0 : Nat} {xs : Array Value} {R : List (Addr × Obj)} {h₀ h : Heap} {L : Addr} (N : News h₀ L h R) (hm : (lr, W.listOf xs n0) ∈ R) : ∀ {ts : List Tk} {vs : List Value}, DatAll R vs (ts.map Tk.tk) → DatAll (noA lr R) vs (ts.map Tk.tk)
  | [], vs, hd => by rw [datAll_nil hd]; exact .nil
  | t :: ts, vs, hd => by
    obtain ⟨v, vs', rfl, h1, h2⟩ := datAll_cons hd
    refine .cons ?_ (dat_noA N hm h2)
    cases tis_of h1 with
    | ch t0 t1 k ha => exact .tuple (vs := [_, _]) (tup_noA N hm ha rfl) (.cons (.str _ _) (.cons (.str _ _) .nil))
    | fd t0 t1 t2 k k' ha hb => exact .tuple (vs := [_, _]) (tup_noA N hm ha rfl) (.cons (.str _ _) (.cons (.tuple (vs := [_, _]) (tup_noA N hm hb rfl) (.cons (.str _ _) (.cons (.int _ _) .nil))) .nil))
theorem cch_filter {h₀ h : Heap} {L lr o : Addr} {n0 nn : Nat} {ps : Array Value} {R R9 : List (Addr × Obj)} {vs : List Value} {ts : List Tk} (N : News h₀ L h ((97, tabObj ps) :: R9)) (hm : (lr, W.listOf #[] n0) ∈ R9) (hS : TabS ps R9) (h97 : ∀ p ∈ R9, p.1 ≠ 97) (hR : ∀ p ∈ R, p ∈ R9) (hlr : ∀ p ∈ R, p.1 ≠ lr) (ho : (o, W.listOf vs.toArray nn) ∈ R9) (hol : (lr : Nat) ≠ o) (hd : DatAll R9 vs (ts.map Tk.tk)) :
    ∃ R8, TabS ps R8 ∧ (∀ p ∈ R8, p.1 ≠ 97) ∧ (∀ p ∈ R8, p.1 ≠ lr) ∧ (∀ p ∈ R, p ∈ R8) ∧ (o, W.listOf vs.toArray nn) ∈ R8 ∧ DatAll R8 vs (ts.map Tk.tk) ∧ News h₀ L h ((lr, W.listOf #[] n0) :: (97, tabObj ps) :: R8) := by
  have N9 : News h₀ L h R9 := fun p hp => N p (.tail _ hp)
  refine ⟨noA lr R9, ?_, fun p hp => h97 p (List.mem_filter.mp hp).1, fun p hp => by simpa using (List.mem_filter.mp hp).2, fun p hp => mem_noA (hR p hp) (hlr p hp), mem_noA ho fun e => hol e.symm, dat_noA N9 hm hd, ?_⟩
  · cases hS with
    | nil h => exact .nil h
    | full c1 c2 e h1 h2 => exact .full c1 c2 e (code_noA N9 hm h1) (code_noA N9 hm h2)
  · intro p hp
    rcases List.mem_cons.mp hp with rfl | hp
    · exact N9 _ hm
    · rcases List.mem_cons.mp hp with rfl | hp
      · exact N _ (.head _)
      · exact N9 _ (List.mem_filter.mp hp).1

noncomputable abbrev cchSt : List Str := [PySem.Str.ofString "tok_type", PySem.Str.ofString "tok_value", PySem.Str.ofString "fieldchar", PySem.Str.ofString "fieldnum", PySem.Str.ofString "limit"]
structure LimIs (K : Frag) (c a : Nat) (vs : List Value) : Prop where
  list : ∀ h : Heap, K.In h → h.IsList a vs.toArray
  nums : IntsAre vs ((lens c).map fun (n : Nat) => (n : Int))
  ne : (lens c).isEmpty = false
theorem my_lim {h₀ : Heap} {L : Addr} {m : Str → Option Value} {w : World} {A : Around} {s : Shared} {E : Value → Shared → Prop} {c : Nat} {t : Tok} {Q : Value → Shared → Prop} {value slice : Expr}
    (F : Fr h₀ L s.heap m) (X : (hd.heap_39 w.params).In h₀) (hc : c ∈ nine) (h0 : lens c = [] → Q .none { s with toks := s.toks + 1 }) (h1 : ∀ a vs, LimIs (hd.heap_39 w.params) c a vs → Q (.ref a) { s with toks := s.toks + 1 })
    (hs : subscripted slice false (.ref 50) (.str (S [c]) t) = operate [.ref 50, .str (S [c]) t] (getItem (.ref 50) (.str (S [c]) t)) := by with_unfolding_all rfl) :
    wpAny (model PySem.Challenge.rw_wx0001_01.row.prog w) A (subscriptTail value slice (.ref 50) (.str (S [c]) t)) Q E s := by
  revert X; k_fill; intro X
  simp only [nine, List.mem_cons, List.not_mem_nil, or_false] at hc
  rcases hc with rfl | rfl | rfl | rfl | rfl | rfl | rfl | rfl | rfl
  all_goals
    refine' topItem_K F X ?l ?k ?e ?_ hs
    case l => k_is
    case k => k_keys
    case e => k_is
    first
    | exact h0 rfl
    | (refine h1 _ _ ⟨fun h X9 => lstK X9 (by k_is), ?_, rfl⟩
       repeat (first | exact IntsAre.nil | refine IntsAre.cons _ _ ?_))
theorem my_truthyL {h₀ : Heap} {L : Addr} {m : Str → Option Value} {w : World} {A : Around} {prog : Program} {s : Shared} {E : Value → Shared → Prop} {K : Frag} {c a : Nat} {vs : List Value} {Q : Bool → Shared → Prop}
    (F : Fr h₀ L s.heap m) (X : K.In h₀) (hl : LimIs K c a vs) (h : ∀ k, Q true { s with toks := k }) : wpAny (model prog w) A (truthy (.ref a)) Q E s := by
  have hL := hl.list _ (X.keeps F.keep)
  have hv : vs ≠ [] := by
    rintro rfl
    have h2 := hl.nums
    have h3 := hl.ne
    cases h4 : lens c with
    | nil => rw [h4] at h3; cases h3
    | cons n l => rw [h4] at h2; cases h2
  have hn : vs.length ≤ 9 := by
    have h2 := hl.nums.length
    rw [List.length_map] at h2
    have h3 : (lens c).length ≤ 9 := by unfold lens; repeat (first | (split; · simp) | simp)
    omega
  refine wpAny_truthy_list hL (by simp; omega) ?_
  have e : (!vs.toArray.isEmpty) = true := by
    cases vs with
    | nil => exact absurd rfl hv
    | cons => rfl
  rw [e]; exact h _
theorem my_notin {h₀ : Heap} {L : Addr} {m : Str → Option Value} {w : World} {A : Around} {prog : Program} {s : Shared} {E : Value → Shared → Prop} {K : Frag} {c a n : Nat} {t : Tok} {vs : List Value} {Q : Value → Shared → Prop}
    (F : Fr h₀ L s.heap m) (X : K.In h₀) (hl : LimIs K c a vs) (h : Q (.bool (!okT (.fd c n))) s) : wpAny (model prog w) A (compareOp .NotIn (.int (n : Nat) t) (.ref a)) Q E s := by
  have hL := hl.list _ (X.keeps F.keep)
  refine notin_list_ints hL hl.nums ?_
  have e : ((lens c).map fun (n : Nat) => (n : Int)).any (· == (n : Int)) = okT (.fd c n) := by
    show _ = ((lens c).isEmpty || (lens c).contains n)
    rw [hl.ne, Bool.false_or, List.any_map]
    induction lens c with
    | nil => rfl
    | cons k l ih =>
      rw [List.any_cons, ih, List.contains_cons]
      congr 1
      simp only [Function.comp_apply]
      by_cases hk : k = n
      · subst hk; simp
      · have h2 : ¬ ((k : Int) = (n : Int)) := by omega
        have h3 : ¬ n = k := fun e => hk e.symm
        rw [beq_eq_false_iff_ne.mpr h2, beq_eq_false_iff_ne.mpr h3]
  rw [e]; exact h
theorem okT_none {c n : Nat} (h : lens c = []) : okT (.fd c n) = true := by
  show ((lens c).isEmpty || (lens c).contains n) = true
  rw [h]; rfl
theorem my_gen {α : Type} {M : Model} {A : Around} {a : Sem α} {Q : α → Shared → Prop} {E : Value → Shared → Prop} {s : Shared} {X : Nat} (h0 : 0 < X) (h : ∀ k, 0 < k → wpAny M A a Q E { s with toks := k }) : wpAny M A a Q E { s with toks := X } := h X h0
theorem mul_S (c n : Nat) : Txt.mul (S [c]) ((n : Nat) : Int) = S (List.replicate n c) := by
  have h := mul_one_list c ((n : Nat) : Int)
  rw [Int.toNat_natCast] at h
  have e : (Txt.mul (S [c]) ((n : Nat) : Int)).cps.toList = List.replicate n c := h
  show _ = (⟨(List.replicate n c).toArray⟩ : Str)
  rw [← e]
theorem my_mul {M : World} {A : Around} {prog : Program} {s : Shared} {E : Value → Shared → Prop} {c n : Nat} {t u : Tok} {Q : Value → Shared → Prop} (hn : n ≤ 900) (h : ∀ t' k, Q (.str (S (List.replicate n c)) t') { s with toks := k }) :
    wpAny (model prog M) A (binaryOp .Mult (.str (S [c]) t) (.int (n : Nat) u)) Q E s := by
  refine SB.mul (mulOk_of 16 1048576 (by rw [S_length]; simp) (by omega) (by omega) (by decide) (by decide)) ?_
  intro t' k
  rw [mul_S]
  exact h t' k
theorem nine_small {c n : Nat} (hc : c ∈ nine) : ∀ d ∈ List.replicate n c, d < 128 := by
  intro d hd
  rw [List.eq_of_mem_replicate hd]
  have : ∀ c ∈ nine, c < 128 := by decide
  exact this c hc
theorem raisedN_sub {base : Heap} {l : List Env} {e : Addr} {cls : Value} {news news' : List (Addr × Obj)} {h : Heap} (R : RaisedN base l e cls news h) (hs : ∀ p ∈ news', p ∈ news) : RaisedN base l e cls news' h := by
  obtain ⟨B, a0, h1, h2, h3⟩ := R
  exact ⟨B, a0, h1, fun q hq => h2 q (hs q hq), h3⟩
/-- the dict of a parsed pattern -/
noncomputable abbrev parsedD (pr : Params) (x : List Nat) (f : Str) (k1 k2 t t4 nn : Nat) : Obj :=
  dictOf [{ hash := PyData.keyHash pr (PySem.Str.ofString "pattern"), key := .str (PySem.Str.ofString "pattern") k1, val := .str (S x) t }, { hash := PyData.keyHash pr (PySem.Str.ofString "format"), key := .str (PySem.Str.ofString "format") k2, val := .str f t4 }] nn
section
variable {w : World} {p : Program} {loose : List Str} {mean : ExcName → Option Value} {mg mb : Str → Option Value}
  {dp un : Nat} {gd : Option (List Code)} {cn : Str} {cs : Scope} {a : Addr} {ccd : Value} {cl : List (Str × Addr)} {outer : List Env} {A₀ : Around} {base h₀ : Heap} {L : Addr} {m : Str → Option Value} {s : Shared} {Q E : Value → Shared → Prop}

end
end Mine

-- MCach
namespace Mine
set_option maxRecDepth 100000
set_option maxHeartbeats 8000000
local macro_rules | `(tactic| walk_at "MY_PAD0") => `(tactic| fail)
local macro_rules | `(tactic| walk_at "MY_PAD1") => `(tactic| fail)
local macro_rules | `(tactic| walk_at "MY_PAD2") => `(tactic| fail)
local macro_rules | `(tactic| walk_at "MY_PAD3") => `(tactic| fail)
local macro_rules | `(tactic| walk_at "MY_PAD4") => `(tactic| fail)
local macro_rules | `(tactic| walk_at "MY_PAD5") => `(tactic| fail)
local macro_rules | `(tactic| walk_at "MY_PAD6") => `(tactic| fail)
local macro_rules | `(tactic| walk_at "MY_PAD7") => `(tactic| fail)
local macro_rules | `(tactic| walk_at "MY_PAD8") => `(tactic| fail)
local macro_rules | `(tactic| walk_at "MY_PAD9") => `(tactic| fail)
local macro_rules | `(tactic| walk_at "MY_PAD10") => `(tactic| fail)
local macro_rules | `(tactic| walk_at "MY_PAD11") => `(tactic| fail)
local macro_rules | `(tactic| walk_at "MY_PAD12") => `(tactic| fail)
local macro_rules | `(tactic| walk_at "MY_PAD13") => `(tactic| fail)
local macro_rules | `(tactic| walk_at "MY_PAD14") => `(tactic| fail)
theorem reset_MCach : True := by
  w_top off
  k_with_none
  trivial
local macro_rules | `(tactic| walk_at "truthy ref") => `(tactic| (k_here; (with_reducible show wpAny _ _ (truthy (Value.ref _)) _ _ _); k_dflt (refine' my_truthyS ?N ?m ?f ?_; (case N => k_asm); (case m => k_mem); (case f => omega); k_whole; intro tk9)))
local macro_rules | `(tactic| walk_at "subscriptTail Name UnaryOp ref int") => `(tactic| (k_here; (with_reducible show wpAny _ _ (subscriptTail _ _ (Value.ref _) (Value.int (-1) _)) _ _ _); k_dflt (refine' my_last ?N ?m ?_; (case N => k_asm); (case m => k_mem); k_whole)))
local macro_rules | `(tactic| k_mem) => `(tactic| assumption)
local macro_rules | `(tactic| walk_at "exec For") => `(tactic| (k_here; (rename Fr _ _ _ _ => lF'); (with_unfolding_all refine' For_turns lF' ?_); k_whole; walk_say "MY FOR"))
local macro_rules | `(tactic| walk_at "MY_ENTERC") => `(tactic| k_dflt (refine' code_defC1 (PySem.Str.ofString "pattern") _ ?k1 ?k2 ?k3 ?k4 ?k5 ?kA ?kF ?kK ?k6 ?k7 ?k8 ?k9 ?kBe ?kB ?kB2 ?kD ?_ ?c2 ?c3 ?c4; (case kA => exact rfl); (case kF => exact rfl); (case kK => assumption); (case k1 => k_asm); (case k2 => k_asm); (case k3 => k_asm); (case k4 => k_asm); (case k5 => k_asm); (case k6 => k_is); (case k7 => k_is); (case k8 => ktr_room); (case k9 => first | exact BindsTo.of_eq rfl | exact binds_K (by k_in) rfl (by k_is) rfl rfl rfl | fail "k_enter: no rule for these arguments"); (case kBe => exact rfl); (case kB => exact fun _ => rfl); (case kB2 => exact rfl); (case kD => decide +kernel); (case c2 => exact rfl); (case c3 => exact rfl); (case c4 => exact rfl); k_whole; intro g' L' h' tk' cells' FG' F' N' Y' B' X' T' l1; (try k_lt l1); k_cells Y'; (try simp only [List.cons_append, List.nil_append] at N'); (try dsimp only); (try k_lift B'); (try k_fold)))
local macro_rules | `(tactic| walk_at "newList") => `(tactic| (k_here; k_dflt (refine' newList_K ?k1 ?k2 ?_; (case k1 => k_asm); (case k2 => k_asm); k_whole); intro l' h' F' N' l1; (try k_lt l1); (first
  | (have la9 : AllLt _ _ := l1; have lo9 := allLt_ne la9) | (have la9 : AllLt _ _ := l1.2; have lo9 := allLt_ne la9) | (have la9 : AllLt _ _ := l1.2.2; have lo9 := allLt_ne la9) | (have la9 : AllLt _ _ := l1.2.2.2; have lo9 := allLt_ne la9) | (have la9 : AllLt _ _ := l1.2.2.2.2; have lo9 := allLt_ne la9) | (have la9 : AllLt _ _ := l1.2.2.2.2.2; have lo9 := allLt_ne la9) | (have la9 : AllLt _ _ := l1.2.2.2.2.2.2; have lo9 := allLt_ne la9)
  | (have la9 : AllLt _ _ := l1.2.2.2.2.2.2.2; have lo9 := allLt_ne la9) | (have la9 : AllLt _ _ := l1.2.2.2.2.2.2.2.2; have lo9 := allLt_ne la9) | (have la9 : AllLt _ _ := l1.2.2.2.2.2.2.2.2.2; have lo9 := allLt_ne la9) | (have la9 : AllLt _ _ := l1.2.2.2.2.2.2.2.2.2.2; have lo9 := allLt_ne la9) | (have la9 : AllLt _ _ := l1.2.2.2.2.2.2.2.2.2.2.2; have lo9 := allLt_ne la9) | (have la9 : AllLt _ _ := l1.2.2.2.2.2.2.2.2.2.2.2.2; have lo9 := allLt_ne la9)
  | (have la9 : AllLt _ _ := l1.2.2.2.2.2.2.2.2.2.2.2.2.2; have lo9 := allLt_ne la9) | (have la9 : AllLt _ _ := l1.2.2.2.2.2.2.2.2.2.2.2.2.2.2; have lo9 := allLt_ne la9) | (have la9 : AllLt _ _ := l1.2.2.2.2.2.2.2.2.2.2.2.2.2.2.2; have lo9 := allLt_ne la9) | skip); (try k_sweep)))

local macro_rules | `(tactic| k_all) => `(tactic| assumption)
local macro_rules | `(tactic| walk_at "truthy str") => `(tactic| (k_here; (first | (with_reducible refine my_tr1 ?_) | (with_reducible refine my_tr0 ?_)); intro tk9))
local macro_rules | `(tactic| walk_at "subscriptTail Name Constant ref int") => `(tactic| (k_here; (with_reducible show wpAny _ _ (subscriptTail _ _ (Value.ref _) (Value.int 0 _)) _ _ _); k_dflt (refine' my_first ?N ?m ?_; (case N => k_asm); (case m => k_mem); k_whole)))
local macro_rules | `(tactic| walk_at "callWith") => `(tactic| (k_here; (with_reducible show wpAny _ _ (callWith _ (Value.builtin _) (_ :: _) (backTo _ (starEach (_ :: _) _)) []) _ _ _); refine callWith_method1 ?_))
local macro_rules | `(tactic| walk_at "subscriptTail Name Constant ref int") => `(tactic| (k_here; (with_reducible show wpAny _ _ (subscriptTail _ _ (Value.ref _) (Value.int 0 _)) _ _ _); k_dflt (refine' my_item0 ?N ?m ?_; (case N => k_asm); (case m => k_mem); k_whole)))
local macro_rules | `(tactic| walk_at "subscriptTail Name Constant ref int") => `(tactic| (k_here; (with_reducible show wpAny _ _ (subscriptTail _ _ (Value.ref _) (Value.int 1 _)) _ _ _); k_dflt (refine' my_item1 ?N ?m ?_; (case N => k_asm); (case m => k_mem); k_whole)))
local macro_rules | `(tactic| walk_at "subscriptTail Name Constant ref int") => `(tactic| (k_here; (with_reducible show wpAny _ _ (subscriptTail _ _ (Value.ref _) (Value.int 2 _)) _ _ _); k_dflt (refine' my_item2 ?N ?m ?_; (case N => k_asm); (case m => k_mem); k_whole)))
local macro_rules | `(tactic| walk_at "execs cons") => `(tactic| (k_here; (with_reducible refine my_gen (Nat.succ_pos _) ?_); intro tk htk))
local macro_rules | `(tactic| walk_at $s:str) => `(tactic| k_extra $s)
section
variable {w : World} {p : Program} {loose : List Str} {mean : ExcName → Option Value} {mg mb : Str → Option Value}
  {dp un : Nat} {gd : Option (List Code)} {cn : Str} {cs : Scope} {a : Addr} {ccd : Value} {cl : List (Str × Addr)} {outer : List Env} {A₀ : Around} {base h₀ : Heap} {L : Addr} {m : Str → Option Value} {s : Shared} {Q E : Value → Shared → Prop}
theorem cached_spec {R : List (Addr × Obj)} {x : List Nat} {r : List Tk} {t : Tok} {ps : Array Value}
    (B : Below A₀ base outer h₀) (F : Fr h₀ L s.heap m) (X : (hd.heap_39 w.params).In h₀) (N : News h₀ L s.heap ((97, tabObj ps) :: R))
    (T : Top p loose mean mg mb h₀) (C : CodeHd base 101 97) (hk : cs.kind = .function) (hdp : dp + 4 < recursionLimit) (hu : un + 32 < cLine)
    (hx : x.length ≤ 400) (ha : ∀ c ∈ x, okSign c = true) (hr : readR x false [] = (r, false)) (hS : TabS ps R) (h97 : ∀ p ∈ R, p.1 ≠ 97)
    (ret : sound r = true → ∀ (o d k1 k2 t4 nn : Nat) (f : Str) (ps' : Array Value) (R' : List (Addr × Obj)) h' tk', TabS ps' R' → (∀ p ∈ R', p.1 ≠ 97) → (∀ p ∈ R, p ∈ R') → 97 < d → AllLt d R' → d < o → Fr h₀ L h' m → News h₀ L h' ((o, instObj 45 d) :: (d, parsedD w.params x f k1 k2 t t4 nn) :: (97, tabObj ps') :: R') → Q (.ref o) { s with heap := h', toks := tk' })
    (err : sound r = false → ∀ (e : Addr) (ps' : Array Value) (R' : List (Addr × Obj)) g' h' tk', TabS ps' R' → (∀ p ∈ R', p.1 ≠ 97) → (∀ p ∈ R, p ∈ R') → Fr h₀ L g' m → RaisedN base (envX cn cs L a ccd cl :: outer) e (.type "ValueError") ((97, tabObj ps') :: R') h' → g'.UpToSlots h' → E (.ref e) { s with heap := h', toks := tk' }) :
    wpAny (model PySem.Challenge.rw_wx0001_01.row.prog w) (ktrTop dp un gd cn cs L a ccd cl outer) (call (.ref 95) [.str (S x) t]) Q E s := by
  have hn9 := tok_nine ha hr
  have hso := tok_sound ha hr
  have hz9 : szs (tokR x).reverse ≤ 900 := by rw [szs_rev]; have := tok_szs (repL_length x); omega
  revert X B F T; k_fill; intro B F X T
  k_with_none
  k_with "exec For Tuple Call cons nil" => (
    (rename Fr _ _ _ _ => lF')
    (with_unfolding_all refine' For_turns lF' ?_))
  k_with "call ref" => (first
   | (k_dflt (refine' call_cls ?k1 ?k2 ?k3 ?k4 ?k5 ?k6 ?_)
      (case k1 => k_asm)
      (case k2 => k_asm)
      (case k3 => k_asm)
      (case k4 => k_is)
      (case k5 => k_is)
      (case k6 => k_is)
      k_whole
      intro x' d' h' F' N' l1 l2
      (try k_lt l1)
      (try k_lt2 l2)
      (try k_sweep)
      (k_dflt (refine' code_def ?k1 ?k2 ?k3 ?k4 ?k5 ?kA ?kF ?kK ?k6 ?k7 ?k8 ?k9 ?kB ?_ ?c2 ?c3 ?c4 ?c5))
      (case kA => exact rfl)
      (case kF => exact rfl)
      (case kK => exact rfl)
      (case k1 => k_asm)
      (case k2 => k_asm)
      (case k3 => k_asm)
      (case k4 => k_asm)
      (case k5 => k_asm)
      (case k6 => k_is)
      (case k7 => k_is)
      (case k8 => ktr_room)
      (case k9 => first | exact BindsTo.of_eq rfl | exact binds_K (by k_in) rfl (by k_is) rfl rfl rfl)
      (case c5 => decide)
      (case kB => exact locs rfl)
      (case c2 => exact rfl)
      (case c3 => exact rfl)
      (case c4 => exact rfl)
      k_whole
      intro g' L' h' FG' F' N' B' X' T'
      (try dsimp only)
      (try k_lift B')
      (try k_fold))
   | (k_dflt (refine' tok_spec0 (R := _ :: R) ?k1 ?k2 ?k3 ?k4 ?k5 ?k6 ?k7 ?k8 ?k9 ?k10 ?k11 ?k12 ?_)
      (case k1 => k_asm)
      (case k2 => k_asm)
      (case k3 => k_asm)
      (case k4 => exact news_swap (by k_asm))
      (case k5 => k_asm)
      (case k6 => kn_code)
      (case k7 => exact rfl)
      (case k8 => ktr_room)
      (case k9 => ktr_units)
      (case k10 => exact hx)
      (case k11 => exact tabS_mono hS fun _ h => .tail _ h)
      (case k12 => exact List.forall_mem_cons.mpr ⟨by k_ne, h97⟩)
      intro o9 nn9 vs9 ps9 R9 h9 tk9 hS9 h979 hR9 hro9 hm9 hd9 F9 N9
      obtain ⟨R8, hS8, h978, hlr8, hR8, hm8, hd8, N8⟩ := cch_filter N9 (hR9 _ (.head _)) hS9 h979 (fun p hp => hR9 p (.tail _ hp)) (by assumption) hm9 (hro9 _ (.head _)) hd9
      clear hS9 h979 hR9 hro9 hm9 hd9 N9))
  k_with "subscriptTail Name Name ref str" => (
    k_dflt (refine' my_lim ?F ?X ?c ?_ ?_)
    (case F => k_asm)
    (case X => k_asm)
    (case c => assumption)
    (intro hl0; have hok9 := okT_none (n := n) hl0)
    rotate_left 1
    intro al vl hlim
    rotate_left 1)
  k_with "truthy ref" => (
    k_dflt (refine' my_truthyL ?F ?X ?l ?_)
    (case F => k_asm)
    (case X => k_asm)
    (case l => assumption)
    intro tk9)
  k_with "compareOp NotIn int ref" => (
    k_dflt (refine' my_notin ?F ?X ?l ?_)
    (case F => k_asm)
    (case X => k_asm)
    (case l => assumption)
    generalize hok9 : okT (.fd c n) = bok
    cases bok)
  k_with "call builtin:str.replace" => (
    have hSy : (S y).length ≤ 1048576 := by rw [S_length]; omega
    refine' SC.replaceW ?h1 ?h2 ?h3 ?h4 ?h5 ?h6 ?_
    (case h1 => exact Nat.ne_of_gt (by omega))
    (case h2 => exact Nat.ne_of_gt (by omega))
    (case h3 => exact Nat.ne_of_lt (by omega))
    (case h4 => decide)
    (case h5 => assumption)
    (case h6 => decide)
    intro t9 k9)
  k_with "binaryOp Mult str int" => (
    (with_reducible refine my_mul (by omega) ?_)
    intro tm km
    have hSr : (S (List.replicate n c)).length ≤ 1000 := by rw [S_length, List.length_replicate]; omega)
  k_with "binaryOp Mod str str" => (
    (with_reducible refine my_pct (by rw [List.length_replicate]; omega) ?_)
    intro tp kp)
  k_with "pyReprObj str" => (
    (with_reducible refine my_reprS (by rw [List.length_replicate]; omega) (nine_small hc9) ?_)
    intro hrl9 tq kq)
  k_with "call builtin:str.join" => (
    k_dflt (refine' my_joinS ?N ?m ?d ?l ?_)
    (case N => k_asm)
    (case m => k_mem)
    (case d => assumption)
    (case l => omega)
    intro tj kj hkj
    (try dsimp only at hkj))
  k_with "pyIter ref" => (
    (rename News _ _ _ _ => N0); (rename Fr _ _ _ _ => F0)
    have hlen8 := hd8.length
    rw [List.length_map] at hlen8
    refine ptxt_loop (tokR x).reverse true cchSt rfl F0 N0 (.tail _ hm8) hlen8 hz9 (List.forall_mem_cons.mpr ⟨?n1, hlr8⟩) (fun i v rv xs n own u h7 tk7 T7 hT hv hs hne hdat hrl hxl fin F7 N7 => ?_) (fun rv xs n u h7 tk7 hs hdat hrl hxl F7 N7 => ?_)
    (case n1 => k_ne)
    all_goals clear F0 N0
    have hc := cch_cases (R := (97, tabObj ps9) :: R8) (own := own) (hd8.mono fun p hp => List.Mem.tail _ hp) hv hn9 hz9 (hs rfl)
    rcases hc with ⟨y, a, t0, t1, k, rfl, hm, hyl, he, hsz⟩ | ⟨c, n, a, b, t0, t1, t2, k, k', rfl, hm, hm2, hc9, hn9, he, hbad, hsz⟩)
  refine wpAny_call ?_
  k_dflt cell_enter
  k_steps
  all_goals (try (rename Fr _ _ _ _ => Fz; rename News _ _ _ _ => Nz))
  all_goals first
    | (have es : sound r = true := by rw [← sound_rev, ← hso]; exact hs rfl
       exact ret es _ _ _ _ _ _ _ _ R8 _ _ hS8 h978 hR8 l1.2.1 l1.2.2 l2 Fz (fun p hp => Nz p (by
         rcases List.mem_cons.mp hp with rfl | hp
         · exact .head _
         · rcases List.mem_cons.mp hp with rfl | hp
           · exact .tail _ (.head _)
           · exact .tail _ (.tail _ (.tail _ hp)))))
    | (have es : sound r = false := by rw [← sound_rev, ← hso]; exact hbad hok9
       rename RaisedN _ _ _ _ _ _ => Rz
       exact err es _ _ R8 _ _ _ hS8 h978 hR8 (by assumption) (raisedN_sub Rz (fun p hp => by
         rcases List.mem_cons.mp hp with rfl | hp
         · exact .tail _ (.head _)
         · exact .tail _ (.tail _ (List.mem_append_left _ hp)))) (by assumption))
    | ((try simp only [List.push_toArray, rep_pct] at Nz)
       exact fin _ _ _ _ _ _ _ Fz Nz (fun p hp => hp) (by first | (have := pct_len y; omega) | (simp only [List.length_append, List.length_cons, List.length_nil, List.length_replicate]; omega)) (fun _ => by first | exact he | (rw [he]; exact hok9)) (by
         intro z h2
         have h3 := h2
         simp only [cchSt, List.contains_cons, List.contains_nil, Bool.or_false, Bool.or_eq_false_iff, beq_eq_false_iff_ne, ne_eq] at h2
         obtain ⟨h4, h5, h6, h7, h8⟩ := h2
         simp only [kstB, h3, h4, h5, h6, h7, h8, if_false, Bool.false_eq_true]))

end
end Mine

-- MGen
namespace Mine
set_option maxRecDepth 100000
set_option maxHeartbeats 8000000
section
variable {prog : Program} {w : World} {A : Around} {E : Value → Shared → Prop} {Q : Flow → Shared → Prop} {s : Shared} {env : Env} {g : Heap} {body : List Stmt} {target : Expr}
/-- the end of a turn that may have run a generator -/
noncomputable def GEnd {σ : Type} (g : Heap) (L : Addr) (os : OsState) (Led : σ → List (Addr × Obj)) (ps : σ → List (Str × Value)) (Facts : Nat → σ → Prop) (stored : List Str) (m₀ : Str → Option Value) (own : List (Addr × Obj)) (i : Nat) (s₂ : Shared) : Prop :=
  ∃ (c' : σ) (m' : Str → Option Value) (news' : List (Addr × Obj)), Fr g L s₂.heap m' ∧ News g L s₂.heap news' ∧ (∀ p ∈ Led c', p ∈ news') ∧ (∀ p ∈ own, p ∈ news') ∧ OwnOff own ((Led c').map (·.1)) ∧ Facts i c' ∧ (∀ p ∈ ps c', m' p.1 = some p.2) ∧ (∀ z, (∀ p ∈ ps c', z ≠ p.1) → stored.contains z = false → m' z = m₀ z) ∧ AllBare s₂.gens ∧ s₂.os = os
noncomputable def GPost {σ : Type} (g : Heap) (L : Addr) (os : OsState) (Led : σ → List (Addr × Obj)) (ps : σ → List (Str × Value)) (Facts : Nat → σ → Prop) (stored : List Str) (m₀ : Str → Option Value) (own : List (Addr × Obj)) (Q : Flow → Shared → Prop) (i : Nat) (f : Flow) (s₂ : Shared) : Prop :=
  match f with
  | .ret v => Q (.ret v) s₂
  | .brk => Q .next s₂
  | _ => GEnd g L os Led ps Facts stored m₀ own i s₂
/-- over a list that stands on the ledger; turns may run generators -/
theorem mlistG {σ : Type} {l : Addr} {vs : List Value} {nn : Nat} {m₀ : Str → Option Value} (Led : σ → List (Addr × Obj)) (ps : σ → List (Str × Value)) (Facts : Nat → σ → Prop) (stored : List Str) (c₀ : σ)
    (hh : A.handled = none) (hl : ∀ i c, Facts i c → (l, W.listOf vs.toArray nn) ∈ Led c) (hG : AllBare s.gens)
    (F : Fr g env.locals s.heap m₀) (N : News g env.locals s.heap (Led c₀)) (hf : Facts 0 c₀) (hk : ∀ p ∈ ps c₀, m₀ p.1 = some p.2)
    (turn : ∀ i v (c : σ) (u : Str → Option Value) (s₁ : Shared) own, vs[i]? = some v → Facts i c → AllBare s₁.gens → s₁.os = s.os → OwnOff own ((Led c).map (·.1)) →
      Fr g env.locals s₁.heap (kstB (fun z => if stored.contains z then u z else m₀ z) (ps c)) → News g env.locals s₁.heap (Led c ++ own) →
      wpAny (model prog w) A (assign target env v) (fun _ s₃ => wpAny (model prog w) A (execs body env) (GPost g env.locals s.os Led ps Facts stored m₀ own Q (i + 1)) E s₃) E s₁)
    (done : ∀ (c : σ) (u : Str → Option Value) (s₁ : Shared), Facts vs.length c → AllBare s₁.gens → s₁.os = s.os → Fr g env.locals s₁.heap (kstB (fun z => if stored.contains z then u z else m₀ z) (ps c)) → News g env.locals s₁.heap (Led c) → Q .next s₁) :
    wpAny (model prog w) A (pyIter (.ref l)) (fun it s₂ => SeekAt prog w A env target body Q E it s₂) E s := by
  have hol : s.heap.get? l = some (W.listOf vs.toArray nn) := (N _ (hl 0 c₀ hf)).1
  have hls : s.heap.IsList l vs.toArray := ⟨_, hol, rfl, nn, rfl⟩
  have hnew := next_is_new F
  have hLI : env.locals ≠ s.heap.objs.size := fun e => absurd F.ns.lt (e ▸ Nat.lt_irrefl _)
  refine wpAny_pyIter_list hls ?_
  refine ⟨fun k s' => ∃ (i : Nat) (c : σ) (m' : Str → Option Value), AllBare s'.gens ∧ s'.os = s.os ∧ s'.heap.IsListIter s.heap.objs.size l i ∧ Fr g env.locals s'.heap m' ∧ News g env.locals s'.heap (Led c) ∧ (∀ p ∈ Led c, p.1 ≠ s.heap.objs.size) ∧ Facts i c ∧
      (∀ p ∈ ps c, m' p.1 = some p.2) ∧ (∀ z, (∀ p ∈ ps c, z ≠ p.1) → stored.contains z = false → m' z = m₀ z) ∧ i ≤ vs.length ∧ k = vs.length + 1 - i, vs.length + 1,
    ⟨0, c₀, m₀, hG, rfl, ⟨_, Heap.get?_push_size _ rfl, rfl, rfl⟩, F.push _, fun p hp => ⟨Heap.get?_push_of_some _ (N p hp).1, (N p hp).2⟩, ?_, hf, hk, fun _ _ _ => rfl, Nat.zero_le _, rfl⟩, ?_⟩
  · intro p hp e
    exact absurd (Heap.lt_size (N p hp).1) (e ▸ Nat.lt_irrefl _)
  rintro k s' ⟨i, c, m', hG', hos, hit, F', N', hne, hf', h1, h2, hi, rfl⟩
  have hm := hl i c hf'
  have hll : s'.heap.IsList l vs.toArray := ⟨_, (N' _ hm).1, rfl, nn, rfl⟩
  have keepOf : ∀ h₁ : Heap, Heap.ExtBut s.heap.objs.size s'.heap h₁ → Fr g env.locals h₁ m' ∧ News g env.locals h₁ (Led c) := fun h₁ hs₁ =>
    ⟨⟨F'.ns.at' fun o e => hs₁ _ o hLI e, fun b o e => hs₁ b o (fun q => by rw [q, hnew] at e; cases e) (F'.keep b o e), F'.above⟩, fun p hp => ⟨hs₁ _ _ (hne p hp) (N' p hp).1, (N' p hp).2⟩⟩
  by_cases hlt : i < vs.length
  · refine wpAny_pyNext_list_item hit hll (x := vs[i]) (by simp [hlt]) fun h₁ hit₁ hs₁ => ?_
    obtain ⟨F₁, N₀⟩ := keepOf h₁ hs₁.extBut
    refine letGo_listiter (s' := { s' with heap := h₁ }) hit₁ ?_
    obtain ⟨oI, hoI, hcI, hdI⟩ := hit₁
    have N₁ : News g env.locals h₁ (Led c ++ [(s.heap.objs.size, oI)]) := by
      intro p hp
      rcases List.mem_append.mp hp with hp | hp
      · exact N₀ p hp
      · rw [List.mem_singleton.mp hp]
        exact ⟨hoI, fun e => hLI e.symm, hnew⟩
    refine wpAny_mono (turn i vs[i] c m' { s' with heap := h₁ } [(s.heap.objs.size, oI)] (by simp [hlt]) hf' hG' hos ?_ (ksw_fr h1 h2 F₁) N₁) (fun _ s₃ h₃ => wpAny_mono h₃ (fun f s₄ p => ?_) fun _ _ e => e) fun _ _ e => e
    · intro p hp b hb
      rw [List.mem_singleton.mp hp]
      obtain ⟨q, hq, rfl⟩ := List.mem_map.mp hb
      exact (hne q hq).symm
    · have fin : GEnd g env.locals s.os Led ps Facts stored m₀ [(s.heap.objs.size, oI)] (i + 1) s₄ → ∃ m, m < vs.length + 1 - i ∧ ∃ (i : Nat) (c : σ) (m' : Str → Option Value), AllBare s₄.gens ∧ s₄.os = s.os ∧ s₄.heap.IsListIter s.heap.objs.size l i ∧ Fr g env.locals s₄.heap m' ∧ News g env.locals s₄.heap (Led c) ∧ (∀ p ∈ Led c, p.1 ≠ s.heap.objs.size) ∧ Facts i c ∧
        (∀ p ∈ ps c, m' p.1 = some p.2) ∧ (∀ z, (∀ p ∈ ps c, z ≠ p.1) → stored.contains z = false → m' z = m₀ z) ∧ i ≤ vs.length ∧ m = vs.length + 1 - i := by
        rintro ⟨c', m₂, news₂, F₂, N₂, hn, ho, ha, hf9, hk9, hr9, hG9, hos9⟩
        refine ⟨vs.length + 1 - (i + 1), by omega, i + 1, c', m₂, hG9, hos9, ⟨oI, (N₂ _ (ho _ (.head _))).1, hcI, hdI⟩, F₂, fun p hp => N₂ p (hn p hp), ?_, hf9, hk9, hr9, hlt, rfl⟩
        intro p hp e
        exact ha _ (.head _) p.1 (List.mem_map.mpr ⟨p, hp, rfl⟩) e.symm
      cases f with
      | ret v => exact p
      | brk => exact p
      | next => exact fin p
      | cont => exact fin p
  · have hin : i = vs.length := by omega
    subst hin
    refine wpAny_pyNext_list_end hh hit hll (by simp) fun h₁ he₁ => ?_
    obtain ⟨F₁, N₁⟩ := keepOf h₁ he₁
    exact done c m' { s' with heap := h₁ } hf' hG' hos (ksw_fr h1 h2 F₁) N₁
end
section
variable {w : World} {p : Program} {loose : List Str} {mean : ExcName → Option Value} {mg mb : Str → Option Value}
  {dp un : Nat} {gd : Option (List Code)} {cn : Str} {cs : Scope} {a : Addr} {ccd : Value} {cl : List (Str × Addr)} {outer : List Env} {A₀ : Around} {base h₀ : Heap} {L : Addr} {m : Str → Option Value} {s : Shared} {Q E : Value → Shared → Prop}

end
end Mine

-- MGen2
namespace Mine
set_option maxRecDepth 100000
set_option maxHeartbeats 8000000
/-- the table of a def that bears one generator expression: empty, or with its code -/
inductive TabG (ps : Array Value) (ln cl : Nat) : Prop where
  | nil : ps = #[] → TabG ps ln cl
  | full (c' : Addr) : ps = #[rawInt ln, rawInt cl, .ref c'] → TabG ps ln cl
section
variable {prog : Program} {w : World} {A : Around} {E : Value → Shared → Prop} {s : Shared} {h₀ : Heap} {L c P : Addr} {m mg mb : Str → Option Value} {p : Program} {loose : List Str} {mean : ExcName → Option Value}
theorem passing_all (n : Nat) : passing (fun _ => true) n 0 = List.range n := by
  unfold passing
  simp
theorem genexp_text {env : Env} {elt iter : Expr} {x : Str} {px : Pos} {scope : Scope} {cl : List (Str × Addr)} {pos : Pos} {Q : Value → Shared → Prop} {y : List Nat} {ty : Tok} {ps : Array Value} {R : List (Addr × Obj)} {q : Nat → Bool}
    (F : Fr h₀ L s.heap m) (N : News h₀ L s.heap ((P, tabObj ps) :: R)) (T : Top p loose mean mg mb h₀) (C : CodeHd h₀ c P) (hcode : env.code = .ref c) (hglob : env.globals = mainGlobals) (hT : TabG ps pos.line pos.col) (hRP : ∀ b ∈ R, b.1 ≠ P)
    (hh : A.handled = none) (hco : scope.isCoroutine = false) (hclos : closureFor scope env = pure cl) (hcell : ∀ y ∈ scope.names, y.2 ≠ .cell) (h0 : scope.names.lookup (".0" : Str) = some NameKind.local)
    (hx : scope.names.lookup x = some .local) (hkind : scope.kind = .function) (hroom : A.depth < recursionLimit) (G : AllBare s.gens)
    (hit : ∀ Q' : Value → Shared → Prop, Q' (.str (S y) ty) s → wpAny (model prog w) A (eval iter env) Q' E s)
    (helt : ∀ (C' : Addr) (code : Value) (A' : Around) (u : Shared) m₂ d td E', A'.handled = none → A'.depth ≤ A.depth + 1 → A'.units ≤ A.units + 8 → Fr h₀ C' u.heap m₂ → m₂ x = some (.str (S [d]) td) →
      wpAny (model prog w) A' (eval elt (genEnv scope cl C' code builtinsNs env)) (fun r s₃ => Carried r (.bool (q d)) ∧ Keeps u s₃) E' u)
    (hs : ∀ x, genFold iter env x = pure x)
    (h : ∀ (a' Kb : Addr) (s₅ : Shared) (ps' : Array Value), Fr h₀ L s₅.heap m → News h₀ L s₅.heap ((P, tabObj ps') :: R) → TabG ps' pos.line pos.col → AllBare s₅.gens → s₅.os = s.os → L ≤ Kb → (∀ b ∈ (P, tabObj ps') :: R, b.1 ≤ Kb) →
      GenOnD prog w A Kb a' y (fun _ => true) (fun d => .bool (q d)) s₅ → Q (.ref a') s₅) :
    wpAny (model prog w) A (eval (.GeneratorExp elt [⟨.Name x px, iter, [], 0⟩] scope pos) env) Q E s := by
  have hPm := N _ (.head _)
  have hnew := next_is_new F
  have hlt : ∀ b ∈ (P, tabObj ps) :: R, b.1 < s.heap.objs.size := fun b hb => Heap.lt_size (N b hb).1
  have hLlt : L < s.heap.objs.size := F.ns.lt
  refine wpAny_GeneratorExp_walksQD hh hco hclos hcell h0 hx hkind hroom (hit _ ?_) hs
  refine wpAny_pyIter_str fun o St W hst => ?_
  have F₂ : Fr h₀ L (s.heap.push o) m := F.push _
  have N₂ : News h₀ L (s.heap.push o) ((P, tabObj ps) :: R) := fun b hb => ⟨Heap.get?_push_of_some _ (N b hb).1, (N b hb).2⟩
  have hl₂ : (s.heap.push o).NoLimit := T.nolimit.keeps F₂.keep
  refine ⟨hl₂, ?_⟩
  have key : ∀ (code : Value) (h₃ : Heap) (tk₃ : Nat) (ps' : Array Value), Fr h₀ L h₃ m → News h₀ L h₃ ((P, tabObj ps') :: R) → TabG ps' pos.line pos.col → (∀ b o', b ≠ P → (s.heap.push o).get? b = some o' → h₃.get? b = some o') → s.heap.objs.size + 1 ≤ h₃.objs.size →
      wpAny (model prog w) A (builtinsFor env.globals env.builtins) (fun bi s₄ =>
        ∃ I fp wr n₀ P St₀ pz F, Value.ref s.heap.objs.size = .ref I ∧ (∀ A' : Around, A'.handled = none → Walks prog w A' I fp wr n₀ P St₀) ∧ St₀ 0 s₄.heap ∧ (∀ b ∈ fp, b < s₄.heap.objs.size) ∧ s₄.heap.NoLimit ∧ cStatics ∉ wr ∧
          (∀ href : Heap, (∀ b o, s₄.heap.get? b = some o → href.get? b = some o) →
            QuietGenD prog w (genEnv scope cl s₄.heap.objs.size code bi env) x [] elt (List.range s₄.heap.objs.size) wr P pz F href (A.depth + 1) (A.units + 8)) ∧
          (∀ a h₅ tk gs, gs.bare = true → s₄.heap.objs.size < a → h₅.objs.size = a + 1 → (∀ b o, s₄.heap.get? b = some o → h₅.get? b = some o) →
            WalksS prog w A.in4 a (a :: s₄.heap.objs.size :: List.range s₄.heap.objs.size) (s₄.heap.objs.size :: wr) (GenOnlyQ s₄.gens.size) (passing pz n₀ 0).length
              (fun j y => ∃ i, (passing pz n₀ 0)[j]? = some i ∧ F i y) (GenAt prog w A.in4 a s₄.gens.size s₄.heap.objs.size (List.range s₄.heap.objs.size) wr pz n₀ F) →
            GenAt prog w A.in4 a s₄.gens.size s₄.heap.objs.size (List.range s₄.heap.objs.size) wr pz n₀ F 0 { s₄ with gens := s₄.gens.push gs, toks := tk, heap := h₅ } →
            Q (.ref a) { s₄ with gens := s₄.gens.push gs, toks := tk, heap := h₅ })) E { s with heap := h₃, toks := tk₃ } := by
    intro code h₃ tk₃ ps' F₃ N₃ hT' hk₃ hsz₃
    obtain ⟨bm, ob, b1, b2, b3, b4, b5, b6⟩ := T.bmain
    have hIP : s.heap.objs.size ≠ P := fun e => absurd (hlt _ (.head _)) (by rw [← e]; exact Nat.lt_irrefl _)
    have hl₃ : h₃.NoLimit := T.nolimit.keeps F₃.keep
    refine wpAny_builtinsFor (m := mg) (by rw [hglob]; exact T.g.keeps F₃.keep) b1 b2 (F₃.keep _ _ b3) b4 b5 b6 ?_
    refine ⟨s.heap.objs.size, [s.heap.objs.size], [s.heap.objs.size], (S y).cps.size, SignAt (S y), St, fun _ => true, fun i v => ∃ d, y[i]? = some d ∧ Carried v (.bool (q d)), rfl, W, ?_, ?_, hl₃, ?_, ?_, ?_⟩
    · refine (W A hh).frame _ _ _ hst fun b hb o' e => ?_
      rw [List.mem_singleton.mp hb] at e ⊢
      exact hk₃ _ _ hIP e
    · intro b hb
      rw [List.mem_singleton.mp hb]
      show s.heap.objs.size < h₃.objs.size
      exact hsz₃
    · intro hm
      have h1 := List.mem_singleton.mp hm
      obtain ⟨_, hn, _⟩ := T.nolimit.keeps F.keep
      have h2 := hn.lt
      rw [h1] at h2
      exact Nat.lt_irrefl _ h2
    · intro href hhref
      have hCs : h₀.objs.size ≤ h₃.objs.size := Nat.le_trans F.above (Nat.le_trans (Nat.le_of_lt hLlt) (Nat.le_of_succ_le hsz₃))
      refine ⟨fun A' E' i v s₂' m₂ _ _ _ _ _ _ _ => wpAny_pure ⟨rfl, s₂'.heap, s₂'.toks, rfl, fun _ _ e => e⟩, fun A' E' i v s₂' m₂ hA hD hU hP _ hns hm hkp => ?_⟩
      obtain ⟨d, td, hd, rfl⟩ := hP
      have hd' : y[i]? = some d := by simpa [S] using hd
      refine wpAny_mono (helt h₃.objs.size code A' s₂' m₂ d td E' hA hD hU ⟨hns, fun b o' e => ?_, hCs⟩ hm) (fun r s₃ hr => ⟨⟨d, hd', hr.1⟩, hr.2⟩) fun _ _ e => e
      refine hkp b (List.mem_range.mpr (Heap.lt_size (F₃.keep _ _ e))) (fun hm2 => ?_) o' (hhref _ _ (F₃.keep _ _ e))
      rw [List.mem_singleton.mp hm2, hnew] at e
      cases e
    · intro a h₅ tk gs hgb hag hsz₅ hk₅ WS hat
      have hag' : h₃.objs.size < a := hag
      have hX : Gen prog w A (s.heap.objs.size - 1) a (passing (fun _ => true) (S y).cps.size 0).length (fun j v => ∃ i, (passing (fun _ => true) (S y).cps.size 0)[j]? = some i ∧ ∃ d, y[i]? = some d ∧ Carried v (.bool (q d))) { s with gens := s.gens.push gs, toks := tk, heap := h₅ } := by
        refine ⟨_, _, _, _, WS, hat, (fun i s' st => st.1.typeIs), List.mem_cons_self, ?_, ?_⟩
        · intro b hb
          show b < h₅.objs.size
          rw [hsz₅]
          rcases List.mem_cons.mp hb with rfl | hb
          · exact Nat.lt_succ_self _
          · rcases List.mem_cons.mp hb with rfl | hb
            · exact Nat.lt_succ_of_lt hag
            · exact Nat.lt_succ_of_lt (Nat.lt_trans (List.mem_range.mp hb) hag)
        · intro b hb
          rcases List.mem_cons.mp hb with rfl | hb
          · show s.heap.objs.size - 1 < h₃.objs.size
            exact Nat.lt_of_le_of_lt (Nat.sub_le _ _) (Nat.lt_of_succ_le hsz₃)
          · rw [List.mem_singleton.mp hb]
            exact Nat.sub_lt (Nat.lt_of_le_of_lt (Nat.zero_le _) hLlt) Nat.one_pos
      have hsize : (S y).cps.size = y.length := S_length y
      refine h a (s.heap.objs.size - 1) _ ps' (F₃.keeps hk₅) (fun b hb => ⟨hk₅ _ _ (N₃ b hb).1, (N₃ b hb).2⟩) hT' (G.push hgb) rfl (Nat.le_sub_one_of_lt hLlt) ?_ ?_
      · intro b hb
        refine Nat.le_sub_one_of_lt ?_
        rcases List.mem_cons.mp hb with rfl | hb
        · exact hlt (P, tabObj ps) (.head _)
        · exact hlt b (.tail _ hb)
      · unfold GenOnD
        rw [hsize, passing_all, List.length_range] at hX
        have e1 : y.filter (fun _ => true) = y := List.filter_eq_self.mpr fun _ _ => rfl
        rw [e1]
        refine hX.imp fun j v hv => ?_
        obtain ⟨i, hi, d, hd, hc⟩ := hv
        have hij : i = j := by
          have := List.getElem?_eq_some_iff.mp hi
          obtain ⟨h1, h2⟩ := this
          rw [List.getElem_range] at h2
          exact h2.symm
        subst hij
        exact ⟨d, hd, hc⟩
  have hP₂ := N₂ _ (.head _)
  rcases hT with rfl | ⟨c', rfl⟩
  · refine wpAny_genexprCodeX hcode ((C.keeps F₂.keep).code hP₂.1 True.intro) ((C.keeps F₂.keep).tab hP₂.1) rfl fun c' h₃ tk₃ hx₃ hge hlt₃ hcode₃ _ htab₃ _ => ?_
    have hLP : L ≠ P := fun e => hP₂.2.1 e.symm
    refine key (.ref c') h₃ tk₃ _ ⟨F₂.ns.at' fun o' e => hx₃ _ _ hLP e, fun b o' e => hx₃ _ _ (fun e2 => by rw [e2, hP₂.2.2] at e; cases e) (F₂.keep _ _ e), F₂.above⟩ ?_ (.full c' rfl) (fun b o' hb e => hx₃ _ _ hb e) ?_
    · intro b hb
      rcases List.mem_cons.mp hb with rfl | hb
      · exact ⟨htab₃.2, hP₂.2⟩
      · have hb2 := N₂ b (.tail _ hb)
        exact ⟨hx₃ _ _ (hRP b hb) hb2.1, hb2.2⟩
    · have : (s.heap.push o).objs.size = s.heap.objs.size + 1 := Heap.size_push ..
      rw [← this]
      exact Nat.le_trans hge (Nat.le_of_lt hlt₃)
  · refine wpAny_genexprCode_hit hcode ((C.keeps F₂.keep).code hP₂.1 (by simp [TriplesOk, rawInt])) (c' := .ref c') (by simp [codeAmong, rawInt]) ?_
    refine key (.ref c') _ s.toks _ F₂ N₂ (.full c' rfl) (fun _ _ _ e => e) ?_
    exact Nat.le_of_eq (Heap.size_push ..).symm
theorem my_any {a' Kb : Addr} {y : List Nat} {q : Nat → Bool} {Q : Value → Shared → Prop} {R : List (Addr × Obj)} (F : Fr h₀ L s.heap m) (N : News h₀ L s.heap R) (G : AllBare s.gens) (hKL : L ≤ Kb) (hK : ∀ b ∈ R, b.1 ≤ Kb)
    (X : GenOnD prog w A Kb a' y (fun _ => true) (fun d => .bool (q d)) s) (h : ∀ s', Fr h₀ L s'.heap m → News h₀ L s'.heap R → AllBare s'.gens → s'.os = s.os → Q (.bool (y.any q)) s') :
    wpAny (model prog w) A (call (.builtin "any") [.ref a']) Q E s := by
  refine any_genD F G X hKL fun s' F' G' hos hk => ?_
  have e1 : y.filter (fun _ => true) = y := List.filter_eq_self.mpr fun _ _ => rfl
  rw [e1]
  exact h s' F' (fun b hb => ⟨hk _ _ (hK b hb) (N b hb).1, (N b hb).2⟩) G' hos
end
section
variable {w : World} {p : Program} {loose : List Str} {mean : ExcName → Option Value} {mg mb : Str → Option Value}
  {dp un : Nat} {gd : Option (List Code)} {cn : Str} {cs : Scope} {a : Addr} {ccd : Value} {cl : List (Str × Addr)} {outer : List Env} {A₀ : Around} {base h₀ : Heap} {L : Addr} {m : Str → Option Value} {s : Shared} {Q E : Value → Shared → Prop}

end
end Mine

-- MGelt
namespace Mine
set_option maxRecDepth 100000
set_option maxHeartbeats 8000000
local macro_rules | `(tactic| walk_at "MY_PAD0") => `(tactic| fail)
local macro_rules | `(tactic| walk_at "MY_PAD1") => `(tactic| fail)
local macro_rules | `(tactic| walk_at "MY_PAD2") => `(tactic| fail)
local macro_rules | `(tactic| walk_at "MY_PAD3") => `(tactic| fail)
local macro_rules | `(tactic| walk_at "MY_PAD4") => `(tactic| fail)
local macro_rules | `(tactic| walk_at "MY_PAD5") => `(tactic| fail)
local macro_rules | `(tactic| walk_at "MY_PAD6") => `(tactic| fail)
local macro_rules | `(tactic| walk_at "MY_PAD7") => `(tactic| fail)
local macro_rules | `(tactic| walk_at "MY_PAD8") => `(tactic| fail)
local macro_rules | `(tactic| walk_at "MY_PAD9") => `(tactic| fail)
local macro_rules | `(tactic| walk_at "MY_PAD10") => `(tactic| fail)
local macro_rules | `(tactic| walk_at "MY_PAD11") => `(tactic| fail)
local macro_rules | `(tactic| walk_at "MY_PAD12") => `(tactic| fail)
local macro_rules | `(tactic| walk_at "MY_PAD13") => `(tactic| fail)
local macro_rules | `(tactic| walk_at "MY_PAD14") => `(tactic| fail)
local macro_rules | `(tactic| walk_at "MY_PAD15") => `(tactic| fail)
local macro_rules | `(tactic| walk_at "MY_PAD16") => `(tactic| fail)
local macro_rules | `(tactic| walk_at "MY_PAD17") => `(tactic| fail)
local macro_rules | `(tactic| walk_at "MY_PAD18") => `(tactic| fail)
local macro_rules | `(tactic| walk_at "MY_PAD19") => `(tactic| fail)
local macro_rules | `(tactic| walk_at "MY_PAD20") => `(tactic| fail)
local macro_rules | `(tactic| walk_at "MY_PAD21") => `(tactic| fail)
local macro_rules | `(tactic| walk_at "MY_PAD22") => `(tactic| fail)
local macro_rules | `(tactic| walk_at "MY_PAD23") => `(tactic| fail)
local macro_rules | `(tactic| walk_at "MY_PAD24") => `(tactic| fail)
local macro_rules | `(tactic| walk_at "MY_PAD25") => `(tactic| fail)
local macro_rules | `(tactic| walk_at "MY_PAD26") => `(tactic| fail)
local macro_rules | `(tactic| walk_at "MY_PAD27") => `(tactic| fail)
theorem reset_MGelt : True := by
  w_top off
  k_with_none
  trivial
local macro_rules | `(tactic| walk_at $s:str) => `(tactic| k_extra $s)
section
variable {w : World} {p : Program} {loose : List Str} {mean : ExcName → Option Value} {mg mb : Str → Option Value}
  {dp un : Nat} {gd : Option (List Code)} {cn : Str} {cs : Scope} {a : Addr} {ccd : Value} {cl : List (Str × Addr)} {outer : List Env} {A₀ : Around} {base h₀ : Heap} {L : Addr} {m : Str → Option Value} {s : Shared} {Q E : Value → Shared → Prop}
noncomputable abbrev chScope : Scope := { kind := .function, names := [(PySem.Str.ofString ".0", .local), (PySem.Str.ofString "ch", .local), (PySem.Str.ofString "PATTERN_CHARS", .globalImplicit)], isGenerator := true, isCoroutine := false, more := [] }
noncomputable def keyCode (e : DictEntry) : List Nat := match e.key with
  | .str y _ => y.cps.toList
  | _ => []
theorem any_same {α : Type} {f g : α → Bool} : ∀ {l : List α}, (∀ e ∈ l, f e = g e) → l.any f = l.any g
  | [], _ => rfl
  | e :: l, h => by rw [List.any_cons, List.any_cons, h e (.head _), any_same fun e' he => h e' (.tail _ he)]
theorem find_pc {pr : Params} {es : Array DictEntry} {d : Nat} (hk : KeysLit pr es.toList) (h1 : es.toList.map keyCode = [71, 121, 89, 117, 81, 113, 77, 76, 119, 87, 100, 68, 70, 103, 69, 101, 99, 97, 98, 66, 104, 72, 75, 107, 109, 115, 83, 65, 122, 90, 79, 118, 86, 120, 88].map fun c => [c]) :
    (findBy Value.isStrOf es (S [d])).isSome = isPC d := by
  have e1 : (findBy Value.isStrOf es (S [d])).isSome = es.toList.any fun e => Value.isStrOf (S [d]) e.key := by
    unfold findBy
    rw [Option.isSome_map, ← Array.find?_toList, Bool.eq_iff_iff, List.find?_isSome, List.any_eq_true]
  rw [e1]
  have e2 : es.toList.any (fun e => Value.isStrOf (S [d]) e.key) = (es.toList.map keyCode).any (· == [d]) := by
    rw [List.any_map]
    refine any_same ?_
    intro e he
    obtain ⟨y, t, e3, _⟩ := hk.all e he
    simp only [Function.comp_apply, keyCode, e3, Value.isStrOf]
    by_cases h : y = S [d]
    · subst h; simp [S]
    · rw [beq_eq_false_iff_ne.mpr h]
      symm
      refine beq_eq_false_iff_ne.mpr fun h2 => h ?_
      show y = (⟨[d].toArray⟩ : Str)
      rw [← h2]
  rw [e2, h1, List.any_map]
  unfold isPC
  generalize ([71, 121, 89, 117, 81, 113, 77, 76, 119, 87, 100, 68, 70, 103, 69, 101, 99, 97, 98, 66, 104, 72, 75, 107, 109, 115, 83, 65, 122, 90, 79, 118, 86, 120, 88] : List Nat) = l
  induction l with
  | nil => rfl
  | cons c l ih =>
    rw [List.any_cons, ih, List.contains_cons]
    congr 1
    simp only [Function.comp_apply]
    by_cases h : c = d
    · subst h; simp
    · have h2 : ¬ d = c := fun e => h e.symm
      rw [beq_eq_false_iff_ne.mpr h2]
      exact beq_eq_false_iff_ne.mpr fun e => h (by simpa using e)
theorem gen_elt {C L' : Addr} {code : Value} {clos : List (Str × Addr)} {A' : Around} {u : Shared} {m₂ : Str → Option Value} {d td : Nat} {E' : Value → Shared → Prop} {sc : Scope}
    (F : Fr h₀ C u.heap m₂) (X : (hd.heap_39 w.params).In h₀) (T : Top p loose mean mg mb h₀) (hm : m₂ (PySem.Str.ofString "ch") = some (.str (S [d]) td)) :
    wpAny (model PySem.Challenge.rw_wx0001_01.row.prog w) A' (eval (.Compare (.Name (PySem.Str.ofString "ch") ⟨87, 24, 87, 26⟩) [.In] [.Name (PySem.Str.ofString "PATTERN_CHARS") ⟨87, 30, 87, 43⟩] ⟨87, 24, 87, 43⟩) (genEnv chScope clos C code builtinsNs (envOf (PySem.Str.ofString "untokenize_pattern") sc L' 109 (.ref 108))))
      (fun r s₃ => Carried r (.bool (isPC d)) ∧ Keeps u s₃) E' u := by
  revert X; k_fill; intro X
  refine wpAny_Compare1 ?_
  refine ldVarG F hm ?_
  refine Calls.Name_function_global (env := genEnv chScope clos C code builtinsNs (envOf (PySem.Str.ofString "untokenize_pattern") sc L' 109 (.ref 108))) rfl rfl (Calls.loadGlobal_global (mg := mg) (T.keeps F.keep).g (mg_of X T.g (v := .ref 50) (by k_is)) ?_) (by decide)
  refine' wpAny_in_of (strKind_is _ _ _ _) (by decide) (mapOf_K (X.keeps F.keep) ?l ?k) ?_
  case l => k_is
  case k => k_keys
  refine ⟨?_, _, _, rfl, fun _ _ e => e⟩
  rw [find_pc (pr := w.params) ?hk (by rfl)]
  · exact .bool _
  · k_keys

end
end Mine

-- MUntP
namespace Mine
set_option maxRecDepth 100000
set_option maxHeartbeats 8000000
inductive UC (R : List (Addr × Obj)) (ts : List Tk) (i : Nat) (v : Value) : Prop where
  | ch (x : List Nat) (a t0 t1 k : Nat) : v = .ref a → ts[i]? = some (.ch x) → (a, ({ cls := .type "tuple", data := .seq #[.str (PySem.Str.ofString "chars") t0, .str (S x) t1] k } : Obj)) ∈ R → x.length ≤ 900 → UC R ts i v
  | fd (c n a b t0 t1 t2 k k' : Nat) : v = .ref a → ts[i]? = some (.fd c n) → (a, ({ cls := .type "tuple", data := .seq #[.str (PySem.Str.ofString "field") t0, .ref b] k } : Obj)) ∈ R → (b, ({ cls := .type "tuple", data := .seq #[.str (S [c]) t1, .int n t2] k' } : Obj)) ∈ R → n ≤ 900 → UC R ts i v
theorem unt_cases {R own : List (Addr × Obj)} {vs : List Value} {ts : List Tk} {i : Nat} {v : Value} (hd : DatAll R vs (ts.map Tk.tk)) (hv : vs[i]? = some v) (hz : szs ts ≤ 900) : UC (R ++ own) ts i v := by
  obtain ⟨t, ht, hT⟩ := tis_at hd hv
  have hT1 := tis_mono hT (R' := R ++ own) fun p hp => List.mem_append_left _ hp
  have h2 := szs_at ht
  cases hT1 with
  | @ch x a t0 t1 k hm => exact .ch x a t0 t1 k rfl ht hm (by simp only [Tk.sz] at h2; omega)
  | @fd c n a b t0 t1 t2 k k' hm hm2 => exact .fd c n a b t0 t1 t2 k k' rfl ht hm hm2 (by simp only [Tk.sz] at h2; omega)
theorem untT_take {ts : List Tk} {i : Nat} {t : Tk} (h : ts[i]? = some t) : (ts.take (i + 1)).map untT = (ts.take i).map untT ++ [untT t] := by
  rw [List.take_add_one, h]; simp
theorem lenS_unt (ts : List Tk) : lenS (ts.map untT) = (unt ts).length := by
  unfold lenS unt
  rw [List.length_flatMap, List.map_map]
  rfl
structure USt where
  rv : List Value
  xs : List (List Nat)
  n : Nat
  ps : Array Value
noncomputable abbrev uLed (lr : Addr) (R : List (Addr × Obj)) (c : USt) : List (Addr × Obj) := (lr, W.listOf c.rv.toArray c.n) :: (104, tabObj c.ps) :: R
structure UOk (ts : List Tk) (i : Nat) (c : USt) : Prop where
  dat : DatAll [] c.rv (txs c.xs)
  eq : c.xs = (ts.take i).map untT
  tab : TabG c.ps 87 23
noncomputable abbrev untSt : List Str := [PySem.Str.ofString "tok_type", PySem.Str.ofString "tok_value"]
theorem unt_loop {prog : Program} {w : World} {A : Around} {E : Value → Shared → Prop} {Q : Flow → Shared → Prop} {s : Shared} {env : Env} {g : Heap} {target : Expr} {body : List Stmt} {m₀ : Str → Option Value} {l lr : Addr} {nn n0 : Nat} {R : List (Addr × Obj)} {vs : List Value} {ps : Array Value} (ts : List Tk)
    (hh : A.handled = none) (F : Fr g env.locals s.heap m₀) (N : News g env.locals s.heap ((lr, W.listOf #[] n0) :: (104, tabObj ps) :: R)) (hl : (l, W.listOf vs.toArray nn) ∈ R) (hd : DatAll R vs (ts.map Tk.tk)) (hz : szs ts ≤ 900) (hlr : ∀ p ∈ R, p.1 ≠ lr) (h104 : ∀ p ∈ R, p.1 ≠ 104) (hG : AllBare s.gens) (hS : TabG ps 87 23)
    (turn : ∀ (i : Nat) (v : Value) (rv : List Value) (n : Nat) (ps : Array Value) (own : List (Addr × Obj)) (u : Str → Option Value) (s₁ : Shared) (T : Flow → Shared → Prop), UC (R ++ own) ts i v → (∀ p ∈ R ++ own, p.1 ≠ lr) → (∀ p ∈ R ++ own, p.1 ≠ 104) → rv.length ≤ 900 → TabG ps 87 23 → AllBare s₁.gens → s₁.os = s.os →
      (∀ (t : Tk) (tt n' : Nat) (ps' : Array Value) m' (s₂ : Shared) news', ts[i]? = some t → Fr g env.locals s₂.heap m' → News g env.locals s₂.heap news' → (∀ p ∈ (lr, W.listOf (rv ++ [Value.str (S (untT t)) tt]).toArray n') :: (104, tabObj ps') :: (R ++ own), p ∈ news') → TabG ps' 87 23 → AllBare s₂.gens → s₂.os = s.os → (∀ z, untSt.contains z = false → m' z = m₀ z) → T .next s₂) →
      Fr g env.locals s₁.heap (kstB (fun z => if untSt.contains z then u z else m₀ z) []) → News g env.locals s₁.heap ((lr, W.listOf rv.toArray n) :: (104, tabObj ps) :: (R ++ own)) →
      wpAny (model prog w) A (assign target env v) (fun _ s₃ => wpAny (model prog w) A (execs body env) T E s₃) E s₁)
    (done : ∀ (rv : List Value) (n : Nat) (ps : Array Value) (u : Str → Option Value) (s₁ : Shared), DatAll [] rv (txs (ts.map untT)) → rv.length ≤ 900 → lenS (ts.map untT) ≤ 9000 → TabG ps 87 23 → AllBare s₁.gens → s₁.os = s.os → Fr g env.locals s₁.heap (kstB (fun z => if untSt.contains z then u z else m₀ z) []) → News g env.locals s₁.heap ((lr, W.listOf rv.toArray n) :: (104, tabObj ps) :: R) → Q .next s₁) :
    wpAny (model prog w) A (pyIter (.ref l)) (fun it s₂ => SeekAt prog w A env target body Q E it s₂) E s := by
  have hlz := len_le_szs ts
  have hlen : vs.length = ts.length := by have := hd.length; rw [List.length_map] at this; exact this
  refine mlistG (σ := USt) (uLed lr R) (fun _ => []) (UOk ts) untSt ⟨[], [], n0, ps⟩ hh (fun _ _ _ => .tail _ (.tail _ hl)) hG F N ⟨.nil, rfl, hS⟩ (fun p hp => nomatch hp) ?_ ?_
  · rintro i v ⟨rv, xs, n, ps⟩ u s₁ own hv ⟨h1, h2, h3⟩ hG1 hos1 ho F' N'
    have hi : i < vs.length := (List.getElem?_eq_some_iff.mp hv).1
    have h6 := h1.length
    dsimp only at h1 h2 h3 h6
    rw [List.length_map, h2, List.length_map, List.length_take] at h6
    refine turn i v rv n ps own u s₁ _ (unt_cases hd hv hz) ?_ ?_ (by omega) h3 hG1 hos1 ?_ F' N'
    · intro p hp
      rcases List.mem_append.mp hp with hp | hp
      · exact hlr p hp
      · exact ho p hp _ (.head _)
    · intro p hp
      rcases List.mem_append.mp hp with hp | hp
      · exact h104 p hp
      · exact ho p hp _ (.tail _ (.head _))
    · intro t tt n' ps' m' s₂ news' ht F2 N2 hN hS2 hG2 hos2 hr
      refine ⟨⟨rv ++ [.str (S (untT t)) tt], xs ++ [untT t], n', ps'⟩, m', news', F2, N2, fun p hp => hN p ?_, fun p hp => hN p (.tail _ (.tail _ (List.mem_append_right _ hp))), ?_, ⟨txs_snoc h1, ?_, hS2⟩, (fun p hp => nomatch hp), (fun z _ h => hr z h), hG2, hos2⟩
      · rcases List.mem_cons.mp hp with rfl | hp
        · exact .head _
        · rcases List.mem_cons.mp hp with rfl | hp
          · exact .tail _ (.head _)
          · exact .tail _ (.tail _ (List.mem_append_left _ hp))
      · exact ho
      · dsimp only
        rw [untT_take ht, h2]
  · rintro ⟨rv, xs, n, ps⟩ u s₁ ⟨h1, h2, h3⟩ hG1 hos1 F' N'
    rw [hlen, List.take_length] at h2
    dsimp only at h1 h2 h3
    subst h2
    have h6 := h1.length
    rw [List.length_map, List.length_map] at h6
    have h7 := unt_len ts
    exact done rv n ps u s₁ h1 (by omega) (by rw [lenS_unt]; omega) h3 hG1 hos1 F' N'
theorem unt_flat (ts : List Tk) : (ts.map untT).flatten = unt ts := by
  unfold unt
  rw [List.flatMap_def]
theorem rep_dbl {x : List Nat} : Txt.replace (S x) (PySem.Str.ofString "'") (PySem.Str.ofString "''") = S (dbl x) := by
  rw [show PySem.Str.ofString "'" = S [39] from by decide +kernel, show PySem.Str.ofString "''" = S [39, 39] from by decide +kernel, replace_S x [39] [39, 39] (by simp), repL_one]
  rfl
theorem untT_quo {x : List Nat} (h : x.any isPC = true) : untT (.ch x) = [39] ++ dbl x ++ [39] := by
  show (if x.any isPC then 39 :: (dbl x ++ [39]) else x) = _
  rw [if_pos h]; rfl
theorem untT_raw {x : List Nat} (h : x.any isPC = false) : untT (.ch x) = x := by
  show (if x.any isPC then 39 :: (dbl x ++ [39]) else x) = _
  rw [h]; rfl
section
variable {w : World} {p : Program} {loose : List Str} {mean : ExcName → Option Value} {mg mb : Str → Option Value}
  {dp un : Nat} {gd : Option (List Code)} {cn : Str} {cs : Scope} {a : Addr} {ccd : Value} {cl : List (Str × Addr)} {outer : List Env} {A₀ : Around} {base h₀ : Heap} {L : Addr} {m : Str → Option Value} {s : Shared} {Q E : Value → Shared → Prop}

end
end Mine

-- MUnt
namespace Mine
set_option maxRecDepth 100000
set_option maxHeartbeats 8000000
local macro_rules | `(tactic| walk_at "MY_PAD0") => `(tactic| fail)
local macro_rules | `(tactic| walk_at "MY_PAD1") => `(tactic| fail)
local macro_rules | `(tactic| walk_at "MY_PAD2") => `(tactic| fail)
local macro_rules | `(tactic| walk_at "MY_PAD3") => `(tactic| fail)
local macro_rules | `(tactic| walk_at "MY_PAD4") => `(tactic| fail)
local macro_rules | `(tactic| walk_at "MY_PAD5") => `(tactic| fail)
local macro_rules | `(tactic| walk_at "MY_PAD6") => `(tactic| fail)
local macro_rules | `(tactic| walk_at "MY_PAD7") => `(tactic| fail)
local macro_rules | `(tactic| walk_at "MY_PAD8") => `(tactic| fail)
local macro_rules | `(tactic| walk_at "MY_PAD9") => `(tactic| fail)
local macro_rules | `(tactic| walk_at "MY_PAD10") => `(tactic| fail)
local macro_rules | `(tactic| walk_at "MY_PAD11") => `(tactic| fail)
local macro_rules | `(tactic| walk_at "MY_PAD12") => `(tactic| fail)
local macro_rules | `(tactic| walk_at "MY_PAD13") => `(tactic| fail)
local macro_rules | `(tactic| walk_at "MY_PAD14") => `(tactic| fail)
local macro_rules | `(tactic| walk_at "MY_PAD15") => `(tactic| fail)
local macro_rules | `(tactic| walk_at "MY_PAD16") => `(tactic| fail)
theorem reset_MUnt : True := by
  w_top off
  k_with_none
  trivial
local macro_rules | `(tactic| walk_at "truthy ref") => `(tactic| (k_here; (with_reducible show wpAny _ _ (truthy (Value.ref _)) _ _ _); k_dflt (refine' my_truthyS ?N ?m ?f ?_; (case N => k_asm); (case m => k_mem); (case f => omega); k_whole; intro tk9)))
local macro_rules | `(tactic| walk_at "subscriptTail Name UnaryOp ref int") => `(tactic| (k_here; (with_reducible show wpAny _ _ (subscriptTail _ _ (Value.ref _) (Value.int (-1) _)) _ _ _); k_dflt (refine' my_last ?N ?m ?_; (case N => k_asm); (case m => k_mem); k_whole)))
local macro_rules | `(tactic| k_mem) => `(tactic| assumption)
local macro_rules | `(tactic| walk_at "exec For") => `(tactic| (k_here; (rename Fr _ _ _ _ => lF'); (with_unfolding_all refine' For_turns lF' ?_); k_whole; walk_say "MY FOR"))
local macro_rules | `(tactic| walk_at "MY_ENTERC") => `(tactic| k_dflt (refine' code_defC1 (PySem.Str.ofString "pattern") _ ?k1 ?k2 ?k3 ?k4 ?k5 ?kA ?kF ?kK ?k6 ?k7 ?k8 ?k9 ?kBe ?kB ?kB2 ?kD ?_ ?c2 ?c3 ?c4; (case kA => exact rfl); (case kF => exact rfl); (case kK => assumption); (case k1 => k_asm); (case k2 => k_asm); (case k3 => k_asm); (case k4 => k_asm); (case k5 => k_asm); (case k6 => k_is); (case k7 => k_is); (case k8 => ktr_room); (case k9 => first | exact BindsTo.of_eq rfl | exact binds_K (by k_in) rfl (by k_is) rfl rfl rfl | fail "k_enter: no rule for these arguments"); (case kBe => exact rfl); (case kB => exact fun _ => rfl); (case kB2 => exact rfl); (case kD => decide +kernel); (case c2 => exact rfl); (case c3 => exact rfl); (case c4 => exact rfl); k_whole; intro g' L' h' tk' cells' FG' F' N' Y' B' X' T' l1; (try k_lt l1); k_cells Y'; (try simp only [List.cons_append, List.nil_append] at N'); (try dsimp only); (try k_lift B'); (try k_fold)))
local macro_rules | `(tactic| walk_at "newList") => `(tactic| (k_here; k_dflt (refine' newList_K ?k1 ?k2 ?_; (case k1 => k_asm); (case k2 => k_asm); k_whole); intro l' h' F' N' l1; (try k_lt l1); (first
  | (have la9 : AllLt _ _ := l1; have lo9 := allLt_ne la9) | (have la9 : AllLt _ _ := l1.2; have lo9 := allLt_ne la9) | (have la9 : AllLt _ _ := l1.2.2; have lo9 := allLt_ne la9) | (have la9 : AllLt _ _ := l1.2.2.2; have lo9 := allLt_ne la9) | (have la9 : AllLt _ _ := l1.2.2.2.2; have lo9 := allLt_ne la9) | (have la9 : AllLt _ _ := l1.2.2.2.2.2; have lo9 := allLt_ne la9) | (have la9 : AllLt _ _ := l1.2.2.2.2.2.2; have lo9 := allLt_ne la9)
  | (have la9 : AllLt _ _ := l1.2.2.2.2.2.2.2; have lo9 := allLt_ne la9) | (have la9 : AllLt _ _ := l1.2.2.2.2.2.2.2.2; have lo9 := allLt_ne la9) | (have la9 : AllLt _ _ := l1.2.2.2.2.2.2.2.2.2; have lo9 := allLt_ne la9) | (have la9 : AllLt _ _ := l1.2.2.2.2.2.2.2.2.2.2; have lo9 := allLt_ne la9) | (have la9 : AllLt _ _ := l1.2.2.2.2.2.2.2.2.2.2.2; have lo9 := allLt_ne la9) | (have la9 : AllLt _ _ := l1.2.2.2.2.2.2.2.2.2.2.2.2; have lo9 := allLt_ne la9)
  | (have la9 : AllLt _ _ := l1.2.2.2.2.2.2.2.2.2.2.2.2.2; have lo9 := allLt_ne la9) | (have la9 : AllLt _ _ := l1.2.2.2.2.2.2.2.2.2.2.2.2.2.2; have lo9 := allLt_ne la9) | (have la9 : AllLt _ _ := l1.2.2.2.2.2.2.2.2.2.2.2.2.2.2.2; have lo9 := allLt_ne la9) | skip); (try k_sweep)))

local macro_rules | `(tactic| k_all) => `(tactic| assumption)
local macro_rules | `(tactic| walk_at "truthy str") => `(tactic| (k_here; (first | (with_reducible refine my_tr1 ?_) | (with_reducible refine my_tr0 ?_)); intro tk9))
local macro_rules | `(tactic| walk_at "subscriptTail Name Constant ref int") => `(tactic| (k_here; (with_reducible show wpAny _ _ (subscriptTail _ _ (Value.ref _) (Value.int 0 _)) _ _ _); k_dflt (refine' my_first ?N ?m ?_; (case N => k_asm); (case m => k_mem); k_whole)))
local macro_rules | `(tactic| walk_at "callWith") => `(tactic| (k_here; (with_reducible show wpAny _ _ (callWith _ (Value.builtin _) (_ :: _) (backTo _ (starEach (_ :: _) _)) []) _ _ _); refine callWith_method1 ?_))
local macro_rules | `(tactic| walk_at "subscriptTail Name Constant ref int") => `(tactic| (k_here; (with_reducible show wpAny _ _ (subscriptTail _ _ (Value.ref _) (Value.int 0 _)) _ _ _); k_dflt (refine' my_item0 ?N ?m ?_; (case N => k_asm); (case m => k_mem); k_whole)))
local macro_rules | `(tactic| walk_at "subscriptTail Name Constant ref int") => `(tactic| (k_here; (with_reducible show wpAny _ _ (subscriptTail _ _ (Value.ref _) (Value.int 1 _)) _ _ _); k_dflt (refine' my_item1 ?N ?m ?_; (case N => k_asm); (case m => k_mem); k_whole)))
local macro_rules | `(tactic| walk_at "subscriptTail Name Constant ref int") => `(tactic| (k_here; (with_reducible show wpAny _ _ (subscriptTail _ _ (Value.ref _) (Value.int 2 _)) _ _ _); k_dflt (refine' my_item2 ?N ?m ?_; (case N => k_asm); (case m => k_mem); k_whole)))
local macro_rules | `(tactic| walk_at "execs cons") => `(tactic| (k_here; (with_reducible refine my_gen (Nat.succ_pos _) ?_); intro tk htk))
local macro_rules | `(tactic| walk_at $s:str) => `(tactic| k_extra $s)
section
variable {w : World} {p : Program} {loose : List Str} {mean : ExcName → Option Value} {mg mb : Str → Option Value}
  {dp un : Nat} {gd : Option (List Code)} {cn : Str} {cs : Scope} {a : Addr} {ccd : Value} {cl : List (Str × Addr)} {outer : List Env} {A₀ : Around} {base h₀ : Heap} {L : Addr} {m : Str → Option Value} {s : Shared} {Q E : Value → Shared → Prop}
theorem unt_spec {R : List (Addr × Obj)} {l nn : Nat} {vs : List Value} {ts : List Tk} {ps : Array Value}
    (B : Below A₀ base outer h₀) (F : Fr h₀ L s.heap m) (X : (hd.heap_39 w.params).In h₀) (N : News h₀ L s.heap ((104, tabObj ps) :: R))
    (T : Top p loose mean mg mb h₀) (C : CodeHd base 108 104) (hk : cs.kind = .function) (hdp : dp + 4 < recursionLimit) (hu : un + 32 < cLine)
    (hl : (l, W.listOf vs.toArray nn) ∈ R) (hd : DatAll R vs (ts.map Tk.tk)) (hz : szs ts ≤ 900) (hS : TabG ps 87 23) (h104 : ∀ p ∈ R, p.1 ≠ 104) (G : AllBare s.gens)
    (ret : ∀ t (s' : Shared) (ps' : Array Value), Fr h₀ L s'.heap m → News h₀ L s'.heap ((104, tabObj ps') :: R) → TabG ps' 87 23 → AllBare s'.gens → s'.os = s.os → Q (.str (S (unt ts)) t) s') :
    wpAny (model PySem.Challenge.rw_wx0001_01.row.prog w) (ktrTop dp un gd cn cs L a ccd cl outer) (call (.ref 109) [.ref l]) Q E s := by
  revert X B F T; k_fill; intro B F X T
  k_with_none
  k_with "exec For Tuple Name cons nil" => (
    (with_unfolding_all refine' For_seek ?_))
  k_with "pyIter ref" => (
    (rename News _ _ _ _ => N0); (rename Fr _ _ _ _ => F0)
    refine unt_loop ts rfl F0 N0 hl hd hz (by assumption) h104 (by exact G) hS (fun i v rv n ps9 own u s7 T7 hc hne hn104 hrl hS9 hG9 hos9 fin F7 N7 => ?_) (fun rv n ps9 u s7 hdat hrl hxl hS9 hG9 hos9 F7 N7 => ?_)
    all_goals clear F0 N0
    (rcases hc with ⟨x, a, t0, t1, k, rfl, hti, hm, hyl⟩ | ⟨c, n, a, b, t0, t1, t2, k, k', rfl, hti, hm, hm2, hn9⟩))
  k_with "eval GeneratorExp" => (
    refine' genexp_text (y := x) (ty := t1) (q := isPC) ?F ?N ?T ?C rfl rfl hS9 ?RP rfl rfl rfl ?hcell rfl rfl rfl ?room ?G ?it ?el ?hs ?_
    (case F => k_asm)
    (case N => exact news_swap (by k_asm))
    (case T => k_asm)
    (case C => kn_code)
    (case RP => exact List.forall_mem_cons.mpr ⟨by k_ne, hn104⟩)
    (case hcell => decide)
    (case room => ktr_room)
    (case G => exact hG9)
    (case it => (intro Q' hq; k_dflt (refine' ld ?k1 ?k2 ?_; (case k1 => k_asm); (case k2 => exact rfl)); exact hq))
    (case el => (intro C' code A' u9 m9 d9 td9 E9 _ _ _ F9 hm9; exact gen_elt F9 (by k_asm) (by k_asm) hm9))
    (case hs => (intro _; rfl))
    intro a5 Kb5 s5 ps5 F5 N5 hS5 G5 hos5 hKL5 hKN5 X5)
  k_with "call builtin:any" => (
    refine my_any F5 N5 G5 hKL5 hKN5 X5 ?_
    intro s6 F6 N6 G6 hos6
    have N6 := news_swap N6
    clear F5 N5 X5)
  k_with "call builtin:str.join" => (
    k_dflt (refine' my_joinS ?N ?m ?d ?l ?_)
    (case N => k_asm)
    (case m => k_mem)
    (case d => assumption)
    (case l => omega)
    intro tj kj hkj
    (try dsimp only at hkj))
  k_with "call builtin:str.replace" => (
    have hSy : (S x).length ≤ 1048576 := by rw [S_length]; omega
    refine' SC.replaceW ?h1 ?h2 ?h3 ?h4 ?h5 ?h6 ?_
    (case h1 => exact Nat.ne_of_gt (by omega))
    (case h2 => exact Nat.ne_of_gt (by omega))
    (case h3 => exact Nat.ne_of_lt (by omega))
    (case h4 => decide)
    (case h5 => assumption)
    (case h6 => decide)
    intro t9 k9)
  k_with "binaryOp Mult str int" => (
    (with_reducible refine my_mul (by omega) ?_)
    intro tm km)
  k_with "binaryOp Mod str str" => (
    rw [rep_dbl]
    (with_reducible refine my_quo (by have := dbl_len x; omega) ?_)
    intro tp kp)
  refine wpAny_call ?_
  k_dflt cell_enter
  k_steps
  all_goals (try (rename Fr _ _ _ _ => Fz; rename News _ _ _ _ => Nz))
  all_goals (try simp only [List.push_toArray] at Nz)
  all_goals first
    | (rw [unt_flat]; exact ret _ _ _ Fz (fun p hp => Nz p (.tail _ hp)) hS9 hG9 hos9)
    | (exact fin (.fd c n) _ _ _ _ _ _ hti Fz Nz (fun p hp => hp) hS9 hG9 hos9 (by
         intro z h2
         have h3 := h2
         simp only [untSt, List.contains_cons, List.contains_nil, Bool.or_false, Bool.or_eq_false_iff, beq_eq_false_iff_ne, ne_eq] at h2
         obtain ⟨h4, h5⟩ := h2
         simp only [kstB, h3, h4, h5, if_false, Bool.false_eq_true]))
    | (have ex : untT (.ch x) = [39] ++ dbl x ++ [39] := untT_quo (by assumption)
       exact fin (.ch x) _ _ _ _ _ _ hti Fz Nz (fun p hp => by rw [ex] at hp; exact hp) hS5 G6 (hos6.trans (hos5.trans hos9)) (by
         intro z h2
         have h3 := h2
         simp only [untSt, List.contains_cons, List.contains_nil, Bool.or_false, Bool.or_eq_false_iff, beq_eq_false_iff_ne, ne_eq] at h2
         obtain ⟨h4, h5⟩ := h2
         simp only [kstB, h3, h4, h5, if_false, Bool.false_eq_true]))
    | (have ex : untT (.ch x) = x := untT_raw (by assumption)
       exact fin (.ch x) _ _ _ _ _ _ hti Fz Nz (fun p hp => by rw [ex] at hp; exact hp) hS5 G6 (hos6.trans (hos5.trans hos9)) (by
         intro z h2
         have h3 := h2
         simp only [untSt, List.contains_cons, List.contains_nil, Bool.or_false, Bool.or_eq_false_iff, beq_eq_false_iff_ne, ne_eq] at h2
         obtain ⟨h4, h5⟩ := h2
         simp only [kstB, h3, h4, h5, if_false, Bool.false_eq_true]))

end
end Mine

-- MLawP
namespace Mine
set_option maxRecDepth 100000
set_option maxHeartbeats 8000000
noncomputable def goodV (b : Nat) : Value → Bool
  | .str y _ => decide (y.cps.toList.length ≤ b) && y.cps.toList.all okSign
  | _ => false
theorem item_tab {prog : Program} {K : Frag} {a0 dn : Addr} {h₀ : Heap} {L : Addr} {m : Str → Option Value} {w : World} {A : Around} {s : Shared} {E : Value → Shared → Prop} {k : Int} {u : Tok} {Q : Value → Shared → Prop} {value slice : Expr} {l : List Value} {dd : Option Addr} {sl : Array (Option Value)} (b : Nat)
    (F : Fr h₀ L s.heap m) (X : K.In h₀) (hl : K.lookup a0 = some ⟨.type "tuple", dd, .seq l.toArray dn, sl⟩) (hall : l.all (goodV b) = true) (hn : l.length < 1000) (h0 : 0 ≤ k) (h1 : k < (l.length : Int)) (h : ∀ (p : List Nat) t', p.length ≤ b → (∀ c ∈ p, okSign c = true) → Q (.str (S p) t') s)
    (hs : subscripted slice false (.ref a0) (.int k u) = operate [.ref a0, .int k u] (getItem (.ref a0) (.int k u)) := by with_unfolding_all rfl) :
    wpAny (model prog w) A (subscriptTail value slice (.ref a0) (.int k u)) Q E s := by
  have hlt : k.toNat < l.length := by omega
  have hv := List.all_eq_true.mp hall _ (List.getElem_mem hlt)
  have hx : l[k.toNat]? = some l[k.toNat] := by simp [hlt]
  refine topTup_K F X hl (by omega) (by omega) (seqIndex_of h0 h1) hx ?_ hs
  generalize l[k.toNat] = v at hv
  cases v <;> try (cases hv; done)
  rename_i y t
  have h2 : (decide (y.cps.toList.length ≤ b) && y.cps.toList.all okSign) = true := hv
  rw [Bool.and_eq_true] at h2
  have e : S y.cps.toList = y := by show (⟨y.cps.toList.toArray⟩ : Str) = y; simp
  have := h y.cps.toList t (of_decide_eq_true h2.1) (List.all_eq_true.mp h2.2)
  rw [e] at this
  exact this
theorem my_piece {h₀ : Heap} {L : Addr} {m : Str → Option Value} {w : World} {A : Around} {s : Shared} {E : Value → Shared → Prop} {k : Int} {u : Tok} {Q : Value → Shared → Prop} {value slice : Expr}
    (F : Fr h₀ L s.heap m) (X : (hd.heap_39 w.params).In h₀) (h0 : 0 ≤ k) (h1 : k < 24) (h : ∀ (p : List Nat) t', p.length ≤ 4 → (∀ c ∈ p, okSign c = true) → Q (.str (S p) t') s)
    (hs : subscripted slice false (.ref 110) (.int k u) = operate [.ref 110, .int k u] (getItem (.ref 110) (.int k u)) := by with_unfolding_all rfl) :
    wpAny (model PySem.Challenge.rw_wx0001_01.row.prog w) A (subscriptTail value slice (.ref 110) (.int k u)) Q E s := by
  revert X; k_fill; intro X
  refine' item_tab 4 F X ?l ?a ?n h0 ?c h hs
  case l => k_is
  case a => decide +kernel
  case n => decide
  case c => exact h1
theorem my_tail {h₀ : Heap} {L : Addr} {m : Str → Option Value} {w : World} {A : Around} {s : Shared} {E : Value → Shared → Prop} {k : Int} {u : Tok} {Q : Value → Shared → Prop} {value slice : Expr}
    (F : Fr h₀ L s.heap m) (X : (hd.heap_39 w.params).In h₀) (h0 : 0 ≤ k) (h1 : k < 4) (h : ∀ (p : List Nat) t', p.length ≤ 2 → (∀ c ∈ p, okSign c = true) → Q (.str (S p) t') s)
    (hs : subscripted slice false (.ref 111) (.int k u) = operate [.ref 111, .int k u] (getItem (.ref 111) (.int k u)) := by with_unfolding_all rfl) :
    wpAny (model PySem.Challenge.rw_wx0001_01.row.prog w) A (subscriptTail value slice (.ref 111) (.int k u)) Q E s := by
  revert X; k_fill; intro X
  refine' item_tab 2 F X ?l ?a ?n h0 ?c h hs
  case l => k_is
  case a => decide +kernel
  case n => decide
  case c => exact h1
noncomputable abbrev lawSt : List Str := [PySem.Str.ofString "number", PySem.Str.ofString "n"]
structure LSt where
  x : List Nat
  t : Tok
noncomputable abbrev lawPs (c : LSt) : List (Str × Value) := [(PySem.Str.ofString "pattern", .str (S c.x) c.t)]
structure LOk (i : Nat) (c : LSt) : Prop where
  len : c.x.length ≤ 6 * i
  ok : ∀ d ∈ c.x, okSign d = true
theorem law_loop {prog : Program} {w : World} {A : Around} {E : Value → Shared → Prop} {Q : Flow → Shared → Prop} {s : Shared} {env : Env} {g : Heap} {target : Expr} {body : List Stmt} {m₀ : Str → Option Value} {l : Addr} {nn : Nat} {R : List (Addr × Obj)} {vs : List Value} {ns : List Int} {t0 : Tok}
    (hh : A.handled = none) (F : Fr g env.locals s.heap m₀) (N : News g env.locals s.heap R) (hl : (l, W.listOf vs.toArray nn) ∈ R) (hi : IntsAre vs ns) (hlen : vs.length ≤ 12) (h1 : m₀ (PySem.Str.ofString "pattern") = some (.str (PySem.Str.ofString "") t0))
    (turn : ∀ (i : Nat) (k : Int) (tk0 : Tok) (x : List Nat) (t : Tok) (own : List (Addr × Obj)) (u : Str → Option Value) (h : Heap) (tk : Nat) (T : Flow → Shared → Prop), k ∈ ns → x.length ≤ 72 → (∀ d ∈ x, okSign d = true) →
      (∀ (p : List Nat) (t' : Tok) m' h' tk' , p.length ≤ 6 → (∀ d ∈ p, okSign d = true) → Fr g env.locals h' m' → News g env.locals h' (R ++ own) → m' (PySem.Str.ofString "pattern") = some (.str (S (x ++ p)) t') → (∀ z, z ≠ PySem.Str.ofString "pattern" → lawSt.contains z = false → m' z = m₀ z) → T .next { s with heap := h', toks := tk' }) →
      Fr g env.locals h (kstB (fun z => if lawSt.contains z then u z else m₀ z) [(PySem.Str.ofString "pattern", .str (S x) t)]) → News g env.locals h (R ++ own) →
      wpAny (model prog w) A (assign target env (.int k tk0)) (fun _ s₃ => wpAny (model prog w) A (execs body env) T E s₃) E { s with heap := h, toks := tk })
    (done : ∀ (x : List Nat) (t : Tok) (u : Str → Option Value) h tk, x.length ≤ 72 → (∀ d ∈ x, okSign d = true) → Fr g env.locals h (kstB (fun z => if lawSt.contains z then u z else m₀ z) [(PySem.Str.ofString "pattern", .str (S x) t)]) → News g env.locals h R → Q .next { s with heap := h, toks := tk }) :
    wpAny (model prog w) A (pyIter (.ref l)) (fun it s₂ => TurnsAt prog w A g env target body Q E it s₂) E s := by
  refine mlist (σ := LSt) (fun _ => R) lawPs LOk lawSt ⟨[], t0⟩ hh (fun _ _ _ => hl) F N ⟨Nat.zero_le _, fun _ h => nomatch h⟩ (fun p hp => ?_) ?_ ?_
  · simp only [lawPs, List.mem_cons, List.not_mem_nil, or_false] at hp
    subst hp
    exact h1
  · rintro i v ⟨x, t⟩ u h tk own hv ⟨h2, h3⟩ ho F' N'
    obtain ⟨k, tk0, hk, rfl⟩ : ∃ k tk0, k ∈ ns ∧ v = .int k tk0 := by
      have hi' := (List.getElem?_eq_some_iff.mp hv).1
      have hlen2 := hi.length
      have hin : i < ns.length := by omega
      obtain ⟨t9, e⟩ := hi.get i ns[i] (List.getElem?_eq_getElem hin)
      rw [hv] at e
      exact ⟨ns[i], t9, List.getElem_mem hin, Option.some.inj e⟩
    have hi2 : i < vs.length := (List.getElem?_eq_some_iff.mp hv).1
    dsimp only at h2 h3
    refine turn i k tk0 x t own u h tk _ hk (by omega) h3 ?_ F' N'
    intro p t' m' h' tk' hp hpo F2 N2 hm hr
    refine mend (σ := LSt) ⟨x ++ p, t'⟩ F2 N2 (fun _ hp => List.mem_append_left _ hp) (fun _ hp => List.mem_append_right _ hp) ho ⟨?_, ?_⟩ ?_ (fun z h5 h6 => hr z (h5 _ (.head _)) h6)
    · dsimp only
      rw [List.length_append]; omega
    · intro d hd
      rcases List.mem_append.mp hd with hd | hd
      · exact h3 d hd
      · exact hpo d hd
    · intro q hq
      simp only [lawPs, List.mem_cons, List.not_mem_nil, or_false] at hq
      subst hq
      exact hm
  · rintro ⟨x, t⟩ u h tk ⟨h2, h3⟩ F' N'
    dsimp only at h2 h3
    exact done x t u h tk (by omega) h3 F' N'
theorem my_addS {M : World} {A : Around} {prog : Program} {s : Shared} {E : Value → Shared → Prop} {x y : List Nat} {t u : Tok} {Q : Value → Shared → Prop} (hx : x.length ≤ 1000) (hy : y.length ≤ 1000) (h : ∀ t' k, Q (.str (S (x ++ y)) t') { s with toks := k }) :
    wpAny (model prog M) A (binaryOp .Add (.str (S x) t) (.str (S y) u)) Q E s := by
  refine SB.add (fun t' k => ?_) (by rw [S_length, S_length, sizeLine_eq]; omega)
  rw [S_append]
  exact h t' k
theorem fm24 (k : Int) : 0 ≤ (k.fmod 96).fmod 24 ∧ (k.fmod 96).fmod 24 < 24 := by
  rw [Int.fmod_eq_emod_of_nonneg _ (by decide), Int.fmod_eq_emod_of_nonneg _ (by decide)]
  omega
theorem fd24 (k : Int) : 0 ≤ (k.fmod 96).fdiv 24 ∧ (k.fmod 96).fdiv 24 < 4 := by
  rw [Int.fmod_eq_emod_of_nonneg _ (by decide), Int.fdiv_eq_ediv_of_nonneg _ (by decide)]
  omega
section
variable {w : World} {p : Program} {loose : List Str} {mean : ExcName → Option Value} {mg mb : Str → Option Value}
  {dp un : Nat} {gd : Option (List Code)} {cn : Str} {cs : Scope} {a : Addr} {ccd : Value} {cl : List (Str × Addr)} {outer : List Env} {A₀ : Around} {base h₀ : Heap} {L : Addr} {m : Str → Option Value} {s : Shared} {Q E : Value → Shared → Prop}

end
end Mine

-- MLawQ
namespace Mine
set_option maxRecDepth 100000
set_option maxHeartbeats 8000000
inductive LTag : Nat → Prop
  | mk (n : Nat) : LTag n
theorem my_cut {M : Model} {A : Around} {t : Sem Flow} {Q : Flow → Shared → Prop} {E : Value → Shared → Prop} {s : Shared} (I : Shared → Prop) (h : wpAny M A t (fun f s' => f = .next ∧ I s') E s) (k : ∀ s', I s' → Q .next s') : wpAny M A t Q E s :=
  wpAny_mono h (fun f s' hf => by obtain ⟨rfl, hi⟩ := hf; exact k s' hi) fun _ _ e => e
theorem fr_kst {g h : Heap} {L : Addr} {m : Str → Option Value} {ps : List (Str × Value)} (F : Fr g L h m) (hk : ∀ p ∈ ps, m p.1 = some p.2) : Fr g L h (kstB m ps) := by
  have e : kstB m ps = m := by
    funext z
    induction ps with
    | nil => rfl
    | cons p l ih =>
      have ih := ih fun q hq => hk q (.tail _ hq)
      show (if z = p.1 then some p.2 else kstB m l z) = m z
      by_cases hz : z = p.1
      · rw [if_pos hz, hz, hk p (.head _)]
      · rw [if_neg hz, ih]
  rw [e]; exact F
/-- the law's ledger between its statements -/
structure LN (g : Heap) (L : Addr) (h : Heap) (r : List Tk) (o : Addr) (vs : List Value) (n : Nat) (ps ps2 : Array Value) (R : List (Addr × Obj)) : Prop where
  news : News g L h ((97, tabObj ps) :: R)
  tab : TabS ps R
  h97 : ∀ p ∈ R, p.1 ≠ 97
  m104 : (104, tabObj ps2) ∈ R
  tabg : TabG ps2 87 23
  lst : (o, W.listOf vs.toArray n) ∈ R
  dat : DatAll R vs (r.reverse.map Tk.rd)
theorem noA_mem {a : Addr} {R : List (Addr × Obj)} {p : Addr × Obj} (h : p ∈ noA a R) : p ∈ R := (List.mem_filter.mp h).1
theorem noA_ne {a : Addr} {R : List (Addr × Obj)} {p : Addr × Obj} (h : p ∈ noA a R) : p.1 ≠ a := by simpa using (List.mem_filter.mp h).2
/-- what is built, taken out of its ledger -/
theorem bld_ln {g h : Heap} {L o : Addr} {r : List Tk} {R0 nx : List (Addr × Obj)} (hB : Bld o R0 r nx) (N : News g L h nx) (m97 : (97, tabObj #[]) ∈ R0) (m104 : (104, tabObj #[]) ∈ R0) :
    ∃ vs n R, LN g L h r o vs n #[] #[] R := by
  have key : ∀ (vs : List Value) (n : Nat) (R1 : List (Addr × Obj)), (o, W.listOf vs.toArray n) ∈ R1 → DatAll R1 vs (r.reverse.map Tk.rd) → (∀ p ∈ R1, p ∈ nx) → (∀ p ∈ R1, p.1 ≠ 97) → ∃ vs n R, LN g L h r o vs n #[] #[] R := by
    intro vs n R1 h1 h2 h3 h4
    refine ⟨vs, n, (104, tabObj #[]) :: R1, ?_, .nil rfl, List.forall_mem_cons.mpr ⟨by decide, h4⟩, .head _, .nil rfl, .tail _ h1, h2.mono fun p hp => .tail _ hp⟩
    intro p hp
    rcases List.mem_cons.mp hp with rfl | hp
    · exact N _ (hB.rest _ m97)
    · rcases List.mem_cons.mp hp with rfl | hp
      · exact N _ (hB.rest _ m104)
      · exact N _ (h3 p hp)
  cases hB with
  | @nil n h1 =>
    refine key [] n [(o, W.listOf #[] n)] (.head _) .nil (fun p hp => ?_) (fun p hp => ?_)
    · rw [List.mem_singleton.mp hp]; exact .head _
    · rw [List.mem_singleton.mp hp]; exact fun e => h1 _ m97 _ (.head _) e.symm
  | @cons t r vs b ob n old hr hd h1 hob h2 =>
    refine key (vs ++ [.ref b]) n ((o, W.listOf (vs ++ [Value.ref b]).toArray n) :: (b, ob) :: old) (.head _) ?_ ?_ ?_
    · simp only [List.reverse_cons, List.map_append, List.map_cons, List.map_nil]
      exact (hd.mono fun p hp => .tail _ (.tail _ hp)).append (.one (hr.dat (.tail _ (.head _))))
    · intro p hp
      rcases List.mem_cons.mp hp with rfl | hp
      · exact .head _
      · rcases List.mem_cons.mp hp with rfl | hp
        · exact .tail _ (.head _)
        · exact .tail _ (.tail _ (List.mem_append_left _ hp))
    · intro p hp
      have hm := List.mem_append_right old m97
      rcases List.mem_cons.mp hp with rfl | hp
      · exact fun e => h1 _ hm _ (.head _) e.symm
      · rcases List.mem_cons.mp hp with rfl | hp
        · exact fun e => h1 _ hm _ (.tail _ (.head _)) e.symm
        · exact fun e => h2 _ m97 _ (List.mem_map.mpr ⟨p, hp, rfl⟩) e.symm
noncomputable abbrev ps1 (x : List Nat) (t o : Nat) : List (Str × Value) := [(PySem.Str.ofString "pattern", .str (S x) t), (PySem.Str.ofString "read", .ref o)]
/-- after the pattern is built and read -/
noncomputable def Inv1 (os : OsState) (g : Heap) (L : Addr) (s : Shared) : Prop := ∃ (x : List Nat) (r : List Tk) (t o : Nat) (vs : List Value) (n : Nat) (R : List (Addr × Obj)) (u : Str → Option Value),
  (∀ c ∈ x, okSign c = true) ∧ x.length ≤ 80 ∧ readR x false [] = (r, false) ∧ s.gens = #[] ∧ s.os = os ∧ LN g L s.heap r o vs n #[] #[] R ∧ Fr g L s.heap (kstB u (ps1 x t o))
theorem inv1_end {g : Heap} {L : Addr} {s : Shared} {x : List Nat} {r : List Tk} {t o : Nat} {R0 nx : List (Addr × Obj)} {m : Str → Option Value} (ha : ∀ c ∈ x, okSign c = true) (hx : x.length ≤ 80) (hr : readR x false [] = (r, false)) (hg : s.gens = #[]) {os : OsState} (hos : s.os = os)
    (hB : Bld o R0 r nx) (N : News g L s.heap nx) (m97 : (97, tabObj #[]) ∈ R0) (m104 : (104, tabObj #[]) ∈ R0) (F : Fr g L s.heap m) (h1 : m (PySem.Str.ofString "pattern") = some (.str (S x) t)) (h2 : m (PySem.Str.ofString "read") = some (.ref o))   : Inv1 os g L s := by
  obtain ⟨vs, n, R, hl⟩ := bld_ln hB N m97 m104
  refine ⟨x, r, t, o, vs, n, R, m, ha, hx, hr, hg, hos, hl, fr_kst F fun p hp => ?_⟩
  simp only [ps1, List.mem_cons, List.not_mem_nil, or_false] at hp
  rcases hp with rfl | rfl
  · exact h1
  · exact h2
theorem my_cut1 (os : OsState) {M : Model} {A : Around} {t : Sem Flow} {Q : Flow → Shared → Prop} {E : Value → Shared → Prop} {s : Shared} {g : Heap} {L : Addr} {m : Str → Option Value} (_F : Fr g L s.heap m) (h : wpAny M A t (fun f s' => f = .next ∧ Inv1 os g L s') E s) (k : ∀ s', Inv1 os g L s' → Q .next s') : wpAny M A t Q E s := my_cut (Inv1 os g L) h k
theorem lit_close : PySem.Str.ofString " '" = S [32, 39] := by decide +kernel
theorem lit_blank : PySem.Str.ofString " " = S [32] := by decide +kernel
theorem ln_grow {g h h' : Heap} {L : Addr} {r : List Tk} {o : Addr} {vs : List Value} {n : Nat} {ps ps2 ps' : Array Value} {R R' : List (Addr × Obj)} (l : LN g L h r o vs n ps ps2 R) (hs : ∀ p ∈ R, p ∈ R') (N : News g L h' ((97, tabObj ps') :: R')) (hS : TabS ps' R') (h97 : ∀ p ∈ R', p.1 ≠ 97) :
    LN g L h' r o vs n ps' ps2 R' := ⟨N, hS, h97, hs _ l.m104, l.tabg, hs _ l.lst, l.dat.mono hs⟩
theorem ln_keep {g h h' : Heap} {L : Addr} {r : List Tk} {o : Addr} {vs : List Value} {n : Nat} {ps ps2 : Array Value} {R nx : List (Addr × Obj)} (l : LN g L h r o vs n ps ps2 R) (N : News g L h' nx) (hs : ∀ p ∈ (97, tabObj ps) :: R, p ∈ nx) :
    LN g L h' r o vs n ps ps2 R := ⟨fun p hp => N p (hs p hp), l.tab, l.h97, l.m104, l.tabg, l.lst, l.dat⟩
theorem ln_dat {g h : Heap} {L : Addr} {r : List Tk} {o : Addr} {vs : List Value} {n : Nat} {ps ps2 : Array Value} {R : List (Addr × Obj)} (l : LN g L h r o vs n ps ps2 R) : DatIn ((97, tabObj ps) :: R) (.ref o) (.list (r.reverse.map Tk.rd)) :=
  .list (.tail _ l.lst) (l.dat.mono fun p hp => .tail _ hp)
theorem ok_rd {t : Tk} (h : okTk t) : kqdOk 8 t.rd = true := by
  cases t with
  | ch x =>
    have h2 : PyData.strOk (S x) = true := by
      unfold PyData.strOk
      rw [← Array.all_toList, S_cps, List.all_eq_true]
      intro c hc
      have h3 := h.2 c hc
      have h4 : c ∈ [121, 77, 100, 69, 99, 72, 79, 70, 83, 39, 37, 45, 32, 58, 116, 111, 84] := List.contains_iff_mem.mp h3
      have : ∀ c ∈ [121, 77, 100, 69, 99, 72, 79, 70, 83, 39, 37, 45, 32, 58, 116, 111, 84], decide (c < 0x110000) = true := by decide
      exact this c h4
    have h0 : PyData.strOk (PySem.Str.ofString "chars") = true := by decide +kernel
    simp only [Tk.rd, kqdOk, List.all_cons, List.all_nil, h0, h2, Bool.and_self]
  | fd c n =>
    have h2 : PyData.strOk (S [c]) = true := by
      unfold PyData.strOk
      rw [← Array.all_toList, S_cps, List.all_eq_true]
      intro d hd
      rw [List.mem_singleton.mp hd]
      have h4 : c ∈ [121, 77, 100, 69, 99, 72, 79, 70, 83] := List.contains_iff_mem.mp h.2.1
      have : ∀ c ∈ [121, 77, 100, 69, 99, 72, 79, 70, 83], decide (c < 0x110000) = true := by decide
      exact this c h4
    have h0 : PyData.strOk (PySem.Str.ofString "field") = true := by decide +kernel
    simp only [Tk.rd, kqdOk, List.all_cons, List.all_nil, h0, h2, Bool.and_self]
theorem ok_rds {r : List Tk} (h : ∀ t ∈ r, okTk t) : ∀ d ∈ r.reverse.map Tk.rd, kqdOk 8 d = true := by
  intro d hd
  obtain ⟨t, ht, rfl⟩ := List.mem_map.mp hd
  exact ok_rd (h t (List.mem_reverse.mp ht))
theorem my_eqL {prog : Program} {w : World} {A : Around} {E : Value → Shared → Prop} {s : Shared} {g : Heap} {L a b : Addr} {news : List (Addr × Obj)} {ds : List Dat} {Q : Value → Shared → Prop}
    (N : News g L s.heap news) (h1 : DatIn news (.ref a) (.list ds)) (h2 : DatIn news (.ref b) (.list ds)) (hok : ∀ d ∈ ds, kqdOk 8 d = true) (hu : A.units + 64 < cLine) (h : Q (.bool true) s) : wpAny (model prog w) A (compareOp .Eq (.ref a) (.ref b)) Q E s := by
  obtain ⟨a', xs, k1, e1, m1, d1⟩ := datIn_list h1
  obtain ⟨b', ys, k2, e2, m2, d2⟩ := datIn_list h2
  cases e1
  cases e2
  refine kqd_eq N m1 rfl rfl d1 (fun _ h => h) m2 rfl rfl d2 (fun _ h => h) hok hok hu ?_
  have e : ∀ inst, @decide (ds = ds) inst = true := fun inst => @decide_eq_true _ inst rfl
  rw [e]
  exact h
theorem okTk_r {x : List Nat} {r : List Tk} {b : Bool} (ha : ∀ c ∈ x, okSign c = true) (h : readR x false [] = (r, b)) : nrm r := by
  have := readR_nrm x.length x (Nat.le_refl _) ha false [] trivial
  rw [h] at this
  exact this
theorem szs_r {x : List Nat} {r : List Tk} {b : Bool} (h : readR x false [] = (r, b)) : szs r ≤ 2 * x.length := by
  have := readR_szs x.length x (Nat.le_refl _) false []
  rw [h] at this
  have e0 : szs [] = 0 := rfl
  rw [e0] at this
  have h2 : szs r ≤ 0 + 2 * x.length := this
  omega
theorem ok_close {x : List Nat} (h : ∀ c ∈ x, okSign c = true) : ∀ c ∈ x ++ [32, 39], okSign c = true := by
  intro c hc
  rcases List.mem_append.mp hc with hc | hc
  · exact h c hc
  · simp only [List.mem_cons, List.not_mem_nil, or_false] at hc
    rcases hc with rfl | rfl <;> decide
inductive PV (pr : Params) (x : List Nat) (r : List Tk) (R : List (Addr × Obj)) : Value → Prop where
  | none : sound r = false → PV pr x r R .none
  | obj (o3 d k1 k2 t t4 nn : Nat) (f : Str) : sound r = true → (o3, instObj 45 d) ∈ R → (d, parsedD pr x f k1 k2 t t4 nn) ∈ R → PV pr x r R (.ref o3)
noncomputable abbrev ps2' (x : List Nat) (t o : Nat) (pv : Value) : List (Str × Value) := [(PySem.Str.ofString "parsed", pv), (PySem.Str.ofString "ok", .bool true), (PySem.Str.ofString "pattern", .str (S x) t), (PySem.Str.ofString "read", .ref o)]
noncomputable abbrev ps3' (x : List Nat) (t o : Nat) : List (Str × Value) := [(PySem.Str.ofString "ok", .bool true), (PySem.Str.ofString "pattern", .str (S x) t), (PySem.Str.ofString "read", .ref o)]
noncomputable def Inv2 (os : OsState) (pr : Params) (g : Heap) (L : Addr) (x : List Nat) (r : List Tk) (s : Shared) : Prop := ∃ (t o : Nat) (vs : List Value) (n : Nat) (ps : Array Value) (R : List (Addr × Obj)) (pv : Value) (u : Str → Option Value),
  s.gens = #[] ∧ s.os = os ∧ LN g L s.heap r o vs n ps #[] R ∧ PV pr x r R pv ∧ Fr g L s.heap (kstB u (ps2' x t o pv))
noncomputable def Inv3 (os : OsState) (g : Heap) (L : Addr) (x : List Nat) (r : List Tk) (s : Shared) : Prop := ∃ (t o : Nat) (vs : List Value) (n : Nat) (ps : Array Value) (R : List (Addr × Obj)) (u : Str → Option Value),
  s.gens = #[] ∧ s.os = os ∧ LN g L s.heap r o vs n ps #[] R ∧ Fr g L s.heap (kstB u (ps3' x t o))
theorem my_cut2 (os : OsState) {M : Model} {A : Around} {t : Sem Flow} {Q : Flow → Shared → Prop} {E : Value → Shared → Prop} {s : Shared} {g : Heap} {L : Addr} {m : Str → Option Value} (pr : Params) (x : List Nat) (r : List Tk) (_F : Fr g L s.heap m) (h : wpAny M A t (fun f s' => f = .next ∧ Inv2 os pr g L x r s') E s) (k : ∀ s', Inv2 os pr g L x r s' → Q .next s') : wpAny M A t Q E s := my_cut (Inv2 os pr g L x r) h k
theorem my_cut3 (os : OsState) {M : Model} {A : Around} {t : Sem Flow} {Q : Flow → Shared → Prop} {E : Value → Shared → Prop} {s : Shared} {g : Heap} {L : Addr} {m : Str → Option Value} (x : List Nat) (r : List Tk) (_F : Fr g L s.heap m) (h : wpAny M A t (fun f s' => f = .next ∧ Inv3 os g L x r s') E s) (k : ∀ s', Inv3 os g L x r s' → Q .next s') : wpAny M A t Q E s := my_cut (Inv3 os g L x r) h k
theorem inv2_end {os : OsState} {pr : Params} {g : Heap} {L : Addr} {s : Shared} {x : List Nat} {r : List Tk} {t o n : Nat} {vs : List Value} {ps : Array Value} {R : List (Addr × Obj)} {pv : Value} {m : Str → Option Value} (hg : s.gens = #[]) (hos : s.os = os) (hL : LN g L s.heap r o vs n ps #[] R) (hp : PV pr x r R pv) (F : Fr g L s.heap m)
    (h1 : m (PySem.Str.ofString "parsed") = some pv) (h2 : m (PySem.Str.ofString "ok") = some (.bool true)) (h3 : m (PySem.Str.ofString "pattern") = some (.str (S x) t)) (h4 : m (PySem.Str.ofString "read") = some (.ref o)) : Inv2 os pr g L x r s := by
  refine ⟨t, o, vs, n, ps, R, pv, m, hg, hos, hL, hp, fr_kst F fun p hp => ?_⟩
  simp only [ps2', List.mem_cons, List.not_mem_nil, or_false] at hp
  rcases hp with rfl | rfl | rfl | rfl
  · exact h1
  · exact h2
  · exact h3
  · exact h4
theorem inv3_end {os : OsState} {g : Heap} {L : Addr} {s : Shared} {x : List Nat} {r : List Tk} {t o n : Nat} {vs : List Value} {ps : Array Value} {R : List (Addr × Obj)} {m : Str → Option Value} (hg : s.gens = #[]) (hos : s.os = os) (hL : LN g L s.heap r o vs n ps #[] R) (F : Fr g L s.heap m)
    (h2 : m (PySem.Str.ofString "ok") = some (.bool true)) (h3 : m (PySem.Str.ofString "pattern") = some (.str (S x) t)) (h4 : m (PySem.Str.ofString "read") = some (.ref o)) : Inv3 os g L x r s := by
  refine ⟨t, o, vs, n, ps, R, m, hg, hos, hL, fr_kst F fun p hp => ?_⟩
  simp only [ps3', List.mem_cons, List.not_mem_nil, or_false] at hp
  rcases hp with rfl | rfl | rfl
  · exact h2
  · exact h3
  · exact h4
theorem ln_obj {g h h' : Heap} {L : Addr} {r : List Tk} {o : Addr} {vs : List Value} {n : Nat} {ps ps2 ps' : Array Value} {R R' : List (Addr × Obj)} {o3 d3 : Nat} {O D : Obj} (l : LN g L h r o vs n ps ps2 R) (hs : ∀ p ∈ R, p ∈ R') (N : News g L h' ((o3, O) :: (d3, D) :: (97, tabObj ps') :: R')) (hS : TabS ps' R') (h97 : ∀ p ∈ R', p.1 ≠ 97) (hd : 97 < d3) (ho : d3 < o3) :
    LN g L h' r o vs n ps' ps2 ((o3, O) :: (d3, D) :: R') :=
  ln_grow l (fun p hp => .tail _ (.tail _ (hs p hp))) (fun p hp => N p (by
    rcases List.mem_cons.mp hp with rfl | hp
    · exact .tail _ (.tail _ (.head _))
    · rcases List.mem_cons.mp hp with rfl | hp
      · exact .head _
      · rcases List.mem_cons.mp hp with rfl | hp
        · exact .tail _ (.head _)
        · exact .tail _ (.tail _ (.tail _ hp)))) (tabS_mono hS fun p hp => .tail _ (.tail _ hp))
    (List.forall_mem_cons.mpr ⟨Nat.ne_of_gt (Nat.lt_trans hd ho), List.forall_mem_cons.mpr ⟨Nat.ne_of_gt hd, h97⟩⟩)
theorem clear_rev (r : List Tk) : clear r.reverse = clear r := by simp [clear]
/-- how the law ends -/
noncomputable def LawEnd (s₁ : Shared) (tabs : List (Addr × Addr)) (r : Result) (s' : Shared) : Prop :=
  r = .ok (.ret (.bool true)) ∧ (∀ b o, (ghostOf s₁.heap tabs).get? b = some o → s'.heap.get? b = some o) ∧ s'.os = s₁.os ∧ AllBare s'.gens ∧ GrownAll tabs s'.heap
theorem law_post {M : Model} {A : Around} {cd : Code} {s s₁ : Shared} {cw : ClaimW} {cl : Str → Option Addr} {mean : ExcName → Option Value} {args : List WData} {tabs : List (Addr × Addr)} (hT : TabsAt tabs s₁.heap) (hr : ∀ a x, cw.raises a x = false) (hp : cw.post args (.bool true) args = true)
    (h : codeAny M A cd (fun r s' => LawEnd s₁ tabs r s') s) : codeAny M A cd (GoodWG cw cl mean args s₁) s :=
  codeAny_mono h fun r s' ⟨hc, hk, hos, hg, hgr⟩ => by
    have keep : ∀ b o, b ∉ tabs.map (·.2) → s₁.heap.get? b = some o → s'.heap.get? b = some o := fun b o hb e => hk b o (ghost_ne e hb)
    have grown : ∀ b o, b ∈ tabs.map (·.2) → s₁.heap.get? b = some o → isCodeTable s₁.heap b ∧ o = tabObj #[] ∧ ∃ ps, s'.heap.get? b = some (tabObj ps) := fun b o hb e => by
      obtain ⟨q, hq, rfl⟩ := List.mem_map.mp hb
      have e2 := (hT q hq).2
      rw [e] at e2
      exact ⟨((hT q hq).1.tab (hT q hq).2).isCodeTable, Option.some.inj e2, hgr.get q hq⟩
    refine ⟨.inl ⟨.bool true, .bool true, [], hc, fun _ => hr _ _, .bool _, hp, fun _ => ⟨List.nodup_nil, fun _ h => nomatch h⟩⟩, ⟨fun b o e => ?_, fun b o e => ?_⟩, hos, hg⟩
    · by_cases hb : b ∈ tabs.map (·.2)
      · obtain ⟨ht, rfl, ps, hP⟩ := grown b o hb e
        exact .inr (.inl ⟨ht, rfl, #[], ps, rfl, by rw [Array.empty_append]; exact hP⟩)
      · exact .inl (keep b o hb e)
    · by_cases hb : b ∈ tabs.map (·.2)
      · obtain ⟨_, _, ps, hP⟩ := grown b o hb e
        exact ⟨_, hP⟩
      · exact ⟨o, keep b o hb e⟩
theorem my_eqS {prog : Program} {w : World} {A : Around} {E : Value → Shared → Prop} {s : Shared} {x : Str} {t u : Tok} {Q : Value → Shared → Prop} (h : Q (.bool true) s) : wpAny (model prog w) A (compareOp .Eq (.str x t) (.str x u)) Q E s :=
  P.eq_str (by rw [beq_self_eq_true]; exact h)
/-- the law's end -/
theorem law_end {g : Heap} {L : Addr} {s s₁ : Shared} {m : Str → Option Value} {r : List Tk} {o : Addr} {vs : List Value} {n : Nat} {ps ps2 : Array Value} {R : List (Addr × Obj)} (hg : g = ghostOf s₁.heap [(101, 97), (108, 104)]) (F : Fr g L s.heap m) (hL : LN g L s.heap r o vs n ps ps2 R) (hos : s.os = s₁.os) (hG : AllBare s.gens) : LawEnd s₁ [(101, 97), (108, 104)] (.ok (.ret (.bool true))) s := by
  subst hg
  exact ⟨rfl, F.keep, hos, hG, ⟨_, (hL.news _ (.head _)).1⟩, ⟨_, (hL.news _ (.tail _ hL.m104)).1⟩, trivial⟩
theorem law_claim (args : List WData) : PySem.Challenge.rw_wx0001_01.row.claim.post args (.bool true) args = true :=
  postW_of (by wrow_shape) (by wtm_val) (by str_meet; first | done | w_fin)
section
variable {w : World} {p : Program} {loose : List Str} {mean : ExcName → Option Value} {mg mb : Str → Option Value}
  {dp un : Nat} {gd : Option (List Code)} {cn : Str} {cs : Scope} {a : Addr} {ccd : Value} {cl : List (Str × Addr)} {outer : List Env} {A₀ : Around} {base h₀ : Heap} {L : Addr} {m : Str → Option Value} {s : Shared} {Q E : Value → Shared → Prop}

end
end Mine

-- MLawR
namespace Mine
set_option maxRecDepth 100000
set_option maxHeartbeats 8000000
section
variable {prog : Program} {w : World} {A : Around} {h₀ : Heap} {L : Addr} {m : Str → Option Value} {env : Env} {elt : Expr} {x : Str} {scope : Scope} {cl : List (Str × Addr)}
theorem comp_ind {s : Shared} {S : List (Addr × Obj) → Prop} {P : Nat → Value → Prop} {Fin : List Value → List (Addr × Obj) → Prop} (Inv : Nat → List Value → List (Addr × Obj) → Prop) (n : Nat)
    (step : ∀ i ys news, i < n → Inv i ys news → ∀ v I oI C oC D m₂ h tk (E' : Value → Shared → Prop), P i v → LCg.NsObj oC m₂ → m₂ x = some v → Fr h₀ L h m → News h₀ L h ((I, oI) :: (C, oC) :: (D, LCg.lst ys) :: news) → LCg.Off3 I C D news → ((@Ne Nat I C) ∧ (@Ne Nat I D) ∧ (@Ne Nat C D)) →
      wpAny (model prog w) A (eval elt (compEnvC scope cl C env)) (LCg.CompEnd h₀ L m { s with heap := h, toks := tk } I oI C oC D (LCg.lst ys) S (fun y news' => Inv (i + 1) (ys ++ [y]) news')) E' { s with heap := h, toks := tk })
    (fin : ∀ ys news, Inv n ys news → Fin ys news) : ∀ k i ys news, i + k = n → Inv i ys news → LCg.CompRest prog w A h₀ L m env elt x scope cl s S P Fin k i ys news
  | 0, i, ys, news, hi, h => .zero (fin ys news (by have : i = n := by omega
                                                    rw [← this]; exact h))
  | k + 1, i, ys, news, hi, h => .succ fun v I oI C oC D m₂ h' tk E' hP hC hx F N off ne =>
      wpAny_mono (step i ys news (by omega) h v I oI C oC D m₂ h' tk E' hP hC hx F N off ne) (fun y s₂ ⟨h₂, tk₂, news₂, e, F₂, N₂, off₂, hS₂, hI₂⟩ =>
        ⟨h₂, tk₂, news₂, e, F₂, N₂, off₂, hS₂, comp_ind Inv n step fin k (i + 1) _ _ (by omega) hI₂⟩) fun _ _ e => e
theorem off1_mem {D : Addr} : ∀ {l : List (Addr × Obj)}, LCg.Off1 D l → ∀ p ∈ l, (p.1 : Nat) ≠ D
  | [], _, _, h => nomatch h
  | _ :: _, x, p, h => by
    rcases List.mem_cons.mp h with rfl | h
    · exact x.1
    · exact off1_mem x.2 p h
theorem comp_toks {Q : Value → Shared → Prop} {s₁ : Shared} {o n : Nat} {vs : List Value} {R : List (Addr × Obj)} {ts : List Tk} (hh : A.handled = none) (F : Fr h₀ L s₁.heap m) (N : News h₀ L s₁.heap R) (hm : (o, W.listOf vs.toArray n) ∈ R) (hd : DatAll R vs (ts.map Tk.rd)) (hlen : vs.length ≤ 2000)
    (helt : ∀ (v : Value) (t : Tk) (news : List (Addr × Obj)) (I C D : Addr) (oI oC oD : Obj) m₂ h tk (E' : Value → Shared → Prop), t ∈ ts → GIs ((I, oI) :: (C, oC) :: (D, oD) :: news) t v → LCg.NsObj oC m₂ → m₂ x = some v → Fr h₀ L h m → News h₀ L h ((I, oI) :: (C, oC) :: (D, oD) :: news) →
      wpAny (model prog w) A (eval elt (compEnvC scope cl C env)) (fun y s₂ => ∃ h' tk' new, s₂ = { s₁ with heap := h', toks := tk' } ∧ Fr h₀ L h' m ∧ News h₀ L h' ((I, oI) :: (C, oC) :: (D, oD) :: (new ++ news)) ∧ (∀ p ∈ new, (p.1 : Nat) ≠ I ∧ (p.1 : Nat) ≠ C ∧ (p.1 : Nat) ≠ D) ∧ DatIn new y t.tk) E' { s₁ with heap := h, toks := tk })
    (fin : ∀ ys news D h tk, DatAll news ys (ts.map Tk.tk) → (∀ p ∈ R, p ∈ news) → Fr h₀ L h m → News h₀ L h ((D, W.listOf ys.toArray ys.length) :: news) → (∀ p ∈ news, (p.1 : Nat) ≠ D) → Q (.ref D) { s₁ with heap := h, toks := tk }) :
    LCg.CompSrc prog w A h₀ L m env elt x scope cl (fun s₂ => LCg.FinE h₀ L m s₂ Q) (.ref o) s₁ := by
  have hvl := hd.length
  rw [List.length_map] at hvl
  refine LCg.CompSrc.ledger (its := vs.toArray) (k := n) hh F N hm (by rw [sizeLine_eq, List.size_toArray]; omega) fun g => ?_
  refine comp_ind (fun i ys news => DatAll news ys ((ts.take i).map Tk.tk) ∧ (∀ p ∈ R, p ∈ news)) vs.toArray.size ?_ ?_ _ 0 [] R (Nat.zero_add _) ⟨.nil, fun _ h => h⟩
  · rintro i ys news hi ⟨h1, h2⟩ v I oI C oC D m₂ h tk E' hP hC hx F' N' off ne
    have hv : vs[i]? = some v := by simpa using hP
    obtain ⟨t, ht, hT⟩ := gis_at hd hv
    refine wpAny_mono (helt v t news I C D oI oC (LCg.lst ys) m₂ h tk E' (List.mem_of_getElem? ht) (gis_mono hT fun p hp => .tail _ (.tail _ (.tail _ (h2 p hp)))) hC hx F' N') (fun y s₂ hE => ?_) fun _ _ e => e
    obtain ⟨h', tk', new, e, F2, N2, hne, hD⟩ := hE
    refine ⟨h', tk', new ++ news, e, F2, N2, .of fun p hp => ?_, .inr ⟨_, List.mem_append_right _ (h2 _ hm), rfl, n, rfl⟩, ?_, fun p hp => List.mem_append_right _ (h2 p hp)⟩
    · rcases List.mem_append.mp hp with hp | hp
      · exact hne p hp
      · exact off.mem p hp
    · rw [List.take_add_one, ht]
      simp only [Option.toList_some, List.map_append, List.map_cons, List.map_nil]
      exact (h1.mono fun p hp => List.mem_append_right _ hp).append (.one (hD.mono fun p hp => List.mem_append_left _ hp))
  · rintro ys news ⟨h1, h2⟩
    have e : ts.take vs.toArray.size = ts := by rw [List.size_toArray, hvl, List.take_length]
    rw [e] at h1
    intro D h tk F' N' off
    exact fin ys news D h tk h1 h2 F' N' (off1_mem off)
end
/-- an object other than a table does not stand where a table stands -/
theorem ne_tab {h₀ h : Heap} {L a b : Addr} {q : Array Value} {o : Obj} {R : List (Addr × Obj)} (N : News h₀ L h R) (hm : (a, tabObj q) ∈ R) (hp : (b, o) ∈ R) (ho : o.cls ≠ .none) : (b : Nat) ≠ a := by
  intro e
  subst e
  have e1 := (N _ hp).1
  have e2 := (N _ hm).1
  rw [e2] at e1
  have e3 : tabObj q = o := Option.some.inj e1
  exact ho (by rw [← e3])
theorem tk_noA {h₀ h : Heap} {L a : Addr} {q : Array Value} {R : List (Addr × Obj)} (N : News h₀ L h R) (hm : (a, tabObj q) ∈ R) : ∀ {ts : List Tk} {vs : List Value}, DatAll R vs (ts.map Tk.tk) → DatAll (noA a R) vs (ts.map Tk.tk)
  | [], vs, hd => by rw [datAll_nil hd]; exact .nil
  | t :: ts, vs, hd => by
    obtain ⟨v, vs', rfl, h1, h2⟩ := datAll_cons hd
    refine .cons ?_ (tk_noA N hm h2)
    cases tis_of h1 with
    | ch t0 t1 k ha => exact .tuple (vs := [_, _]) (mem_noA ha (ne_tab N hm ha (by simp))) (.cons (.str _ _) (.cons (.str _ _) .nil))
    | fd t0 t1 t2 k k' ha hb => exact .tuple (vs := [_, _]) (mem_noA ha (ne_tab N hm ha (by simp))) (.cons (.str _ _) (.cons (.tuple (vs := [_, _]) (mem_noA hb (ne_tab N hm hb (by simp))) (.cons (.str _ _) (.cons (.int _ _) .nil))) .nil))
theorem rd_noA {h₀ h : Heap} {L a : Addr} {q : Array Value} {R : List (Addr × Obj)} (N : News h₀ L h R) (hm : (a, tabObj q) ∈ R) : ∀ {ts : List Tk} {vs : List Value}, DatAll R vs (ts.map Tk.rd) → DatAll (noA a R) vs (ts.map Tk.rd)
  | [], vs, hd => by rw [datAll_nil hd]; exact .nil
  | t :: ts, vs, hd => by
    obtain ⟨v, vs', rfl, h1, h2⟩ := datAll_cons hd
    refine .cons ?_ (rd_noA N hm h2)
    cases gis_of h1 with
    | ch t0 t1 k ha => exact .list (vs := [_, _]) (mem_noA ha (ne_tab N hm ha (by simp [W.listOf]))) (.cons (.str _ _) (.cons (.str _ _) .nil))
    | fd t0 t1 t2 k ha => exact .list (vs := [_, _, _]) (mem_noA ha (ne_tab N hm ha (by simp [W.listOf]))) (.cons (.str _ _) (.cons (.str _ _) (.cons (.int _ _) .nil)))
theorem code_noT {h₀ h : Heap} {L a c : Addr} {q : Array Value} {z : Str} {R : List (Addr × Obj)} (N : News h₀ L h R) (hm : (a, tabObj q) ∈ R) (hq : ∀ y t, q[1]? ≠ some (.str y t)) (hc : CodeOb z c R) : CodeOb z c (noA a R) := by
  obtain ⟨oc, vs, t, a1, a2, a3⟩ := hc
  refine ⟨oc, vs, t, mem_noA a1 ?_, a2, a3⟩
  intro e
  dsimp only at e
  subst e
  have e1 := (N _ a1).1
  have e2 := (N _ hm).1
  rw [e2] at e1
  have e3 : tabObj q = oc := Option.some.inj e1
  rw [← e3] at a2
  have e4 : q = vs := by cases a2; rfl
  rw [← e4] at a3
  exact hq _ _ a3
theorem tab_noT {h₀ h : Heap} {L a : Addr} {q ps : Array Value} {R : List (Addr × Obj)} (N : News h₀ L h R) (hm : (a, tabObj q) ∈ R) (hq : ∀ y t, q[1]? ≠ some (.str y t)) (hS : TabS ps R) : TabS ps (noA a R) := by
  cases hS with
  | nil h => exact .nil h
  | full c1 c2 e h1 h2 => exact .full c1 c2 e (code_noT N hm hq h1) (code_noT N hm hq h2)
theorem tabG_q {q : Array Value} {a b : Nat} (h : TabG q a b) : ∀ y t, q[1]? ≠ some (.str y t) := by
  intro y t e
  cases h with
  | nil h => subst h; simp at e
  | full c h => subst h; simp [rawInt] at e
theorem tabS_q {q : Array Value} {R : List (Addr × Obj)} (h : TabS q R) : ∀ y t, q[1]? ≠ some (.str y t) := by
  intro y t e
  cases h with
  | nil h => subst h; simp at e
  | full c1 c2 h _ _ => subst h; simp [rawInt, fullTab] at e
/-- laid out for the untokenizer -/
structure UN (g : Heap) (L : Addr) (h : Heap) (r : List Tk) (o D : Addr) (vs ys : List Value) (n : Nat) (ps ps2 : Array Value) (R : List (Addr × Obj)) : Prop where
  news : News g L h ((104, tabObj ps2) :: R)
  h104 : ∀ p ∈ R, p.1 ≠ 104
  tabg : TabG ps2 87 23
  m97 : (97, tabObj ps) ∈ R
  tab : TabS ps R
  lst : (o, W.listOf vs.toArray n) ∈ R
  dat : DatAll R vs (r.reverse.map Tk.rd)
  lstD : (D, W.listOf ys.toArray ys.length) ∈ R
  datD : DatAll R ys (r.reverse.map Tk.tk)
theorem un_of {g h h' : Heap} {L : Addr} {r : List Tk} {o D : Addr} {vs ys : List Value} {n : Nat} {ps ps2 : Array Value} {R news : List (Addr × Obj)} (l : LN g L h r o vs n ps ps2 R) (hs : ∀ p ∈ (97, tabObj ps) :: R, p ∈ news) (hd : DatAll news ys (r.reverse.map Tk.tk)) (N : News g L h' ((D, W.listOf ys.toArray ys.length) :: news)) :
    ∃ R', UN g L h' r o D vs ys n ps ps2 R' := by
  have m104 : (104, tabObj ps2) ∈ (D, W.listOf ys.toArray ys.length) :: news := .tail _ (hs _ (.tail _ l.m104))
  have hl : ∀ p ∈ R, p ∈ (D, W.listOf ys.toArray ys.length) :: news := fun p hp => .tail _ (hs p (.tail _ hp))
  refine ⟨noA 104 ((D, W.listOf ys.toArray ys.length) :: news), ?_, fun p hp => noA_ne hp, l.tabg, mem_noA (.tail _ (hs _ (.head _))) (show (97 : Nat) ≠ 104 by decide), tab_noT N m104 (tabG_q l.tabg) (tabS_mono l.tab hl), mem_noA (hl _ l.lst) (ne_tab N m104 (hl _ l.lst) (by simp [W.listOf])), rd_noA N m104 (l.dat.mono hl), mem_noA (.head _) (ne_tab N m104 (.head _) (by simp [W.listOf])), tk_noA N m104 (hd.mono fun p hp => .tail _ hp)⟩
  intro p hp
  rcases List.mem_cons.mp hp with rfl | hp
  · exact N _ m104
  · exact N _ (noA_mem hp)
/-- and back -/
theorem ln_of_un {g h h' : Heap} {L : Addr} {r : List Tk} {o D : Addr} {vs ys : List Value} {n : Nat} {ps ps2 ps2' : Array Value} {R : List (Addr × Obj)} (l : UN g L h r o D vs ys n ps ps2 R) (N : News g L h' ((104, tabObj ps2') :: R)) (hG : TabG ps2' 87 23) :
    ∃ R', LN g L h' r o vs n ps ps2' R' := by
  have NR : News g L h' R := fun p hp => N p (.tail _ hp)
  have hcons : ∀ p ∈ noA 97 R, p ∈ (104, tabObj ps2') :: noA 97 R := fun p hp => .tail _ hp
  refine ⟨(104, tabObj ps2') :: noA 97 R, ?_, tabS_mono (tab_noT NR l.m97 (tabS_q l.tab) l.tab) hcons, List.forall_mem_cons.mpr ⟨show (104 : Nat) ≠ 97 by decide, fun p hp => noA_ne hp⟩, .head _, hG, .tail _ (mem_noA l.lst (ne_tab NR l.m97 l.lst (by simp [W.listOf]))), (rd_noA NR l.m97 l.dat).mono hcons⟩
  intro p hp
  rcases List.mem_cons.mp hp with rfl | hp
  · exact NR _ l.m97
  · rcases List.mem_cons.mp hp with rfl | hp
    · exact N _ (.head _)
    · exact NR _ (noA_mem hp)
theorem my_eqT {prog : Program} {w : World} {A : Around} {E : Value → Shared → Prop} {s : Shared} {g : Heap} {L a b oa ob : Addr} {ka kb : Nat} {bb : Bool} {news : List (Addr × Obj)} {ds : List Dat} {Q : Value → Shared → Prop}
    (N : News g L s.heap news) (ma : (a, ({ cls := .type "tuple", data := .seq #[.ref oa, .bool bb] ka } : Obj)) ∈ news) (mb : (b, ({ cls := .type "tuple", data := .seq #[.ref ob, .bool bb] kb } : Obj)) ∈ news)
    (h1 : DatIn news (.ref oa) (.list ds)) (h2 : DatIn news (.ref ob) (.list ds)) (hok : ∀ d ∈ ds, kqdOk 8 d = true) (hu : A.units + 64 < cLine) (h : Q (.bool true) s) : wpAny (model prog w) A (compareOp .Eq (.ref a) (.ref b)) Q E s := by
  have hk : kqdOk 9 (.list ds) = true := by simpa [kqdOk] using hok
  obtain ⟨as, ra⟩ := kqd_in N 9 h1 hk
  obtain ⟨bs, rb⟩ := kqd_in N 9 h2 hk
  have Ra := reads_tuple_at (N.get ma) rfl rfl (xs := [kqdP (.list ds), .bool bb]) (by simpa using ReadsAll.cons ra (.cons (.bool bb) .nil))
  have Rb := reads_tuple_at (N.get mb) rfl rfl (xs := [kqdP (.list ds), .bool bb]) (by simpa using ReadsAll.cons rb (.cons (.bool bb) .nil))
  have la := kqd_lay 9 (.list ds) hk
  have q := (kqd_eqv 9 (.list ds) (.list ds) 9 hk hk).mpr rfl
  have hsh : SeqAt.shaped (.tuple [kqdP (.list ds), .bool bb]) = true := by
    have la2 := la.2
    unfold SeqAt.shaped
    simp only [PyData.canLay0, PyData.canLayAll0, PyData.depth, PyData.depthAll, la.1, Bool.and_self, Bool.true_and]
    refine decide_eq_true ?_
    have e0 : max (0 : Nat) 0 = 0 := rfl
    rw [e0, Nat.max_eq_left (Nat.zero_le _)]
    omega
  refine eq_dataH Ra Rb hsh hsh hu ?_
  have e : PyData.eqv (.tuple [kqdP (.list ds), .bool bb]) (.tuple [kqdP (.list ds), .bool bb]) = true := by
    simp only [PyData.eqv, PyData.eqvAll, q, beq_self_eq_true, Bool.and_self]
  rw [e]
  exact h
theorem ln_len {g h : Heap} {L : Addr} {r : List Tk} {o : Addr} {vs : List Value} {n : Nat} {ps ps2 : Array Value} {R : List (Addr × Obj)} (l : LN g L h r o vs n ps ps2 R) (hz : szs r.reverse ≤ 900) : vs.length ≤ 2000 := by
  have h1 := l.dat.length
  have h2 := len_le_szs r.reverse
  rw [List.length_map] at h1
  omega
section
variable {w : World} {p : Program} {loose : List Str} {mean : ExcName → Option Value} {mg mb : Str → Option Value}
  {dp un : Nat} {gd : Option (List Code)} {cn : Str} {cs : Scope} {a : Addr} {ccd : Value} {cl : List (Str × Addr)} {outer : List Env} {A₀ : Around} {base h₀ : Heap} {L : Addr} {m : Str → Option Value} {s : Shared} {Q E : Value → Shared → Prop}

end
end Mine

-- MElt
namespace Mine
set_option maxRecDepth 100000
set_option maxHeartbeats 8000000
local macro_rules | `(tactic| walk_at "MY_PAD0") => `(tactic| fail)
local macro_rules | `(tactic| walk_at "MY_PAD1") => `(tactic| fail)
local macro_rules | `(tactic| walk_at "MY_PAD2") => `(tactic| fail)
local macro_rules | `(tactic| walk_at "MY_PAD3") => `(tactic| fail)
local macro_rules | `(tactic| walk_at "MY_PAD4") => `(tactic| fail)
local macro_rules | `(tactic| walk_at "MY_PAD5") => `(tactic| fail)
local macro_rules | `(tactic| walk_at "MY_PAD6") => `(tactic| fail)
local macro_rules | `(tactic| walk_at "MY_PAD7") => `(tactic| fail)
local macro_rules | `(tactic| walk_at "MY_PAD8") => `(tactic| fail)
local macro_rules | `(tactic| walk_at "MY_PAD9") => `(tactic| fail)
local macro_rules | `(tactic| walk_at "MY_PAD10") => `(tactic| fail)
local macro_rules | `(tactic| walk_at "MY_PAD11") => `(tactic| fail)
local macro_rules | `(tactic| walk_at "MY_PAD12") => `(tactic| fail)
local macro_rules | `(tactic| walk_at "MY_PAD13") => `(tactic| fail)
local macro_rules | `(tactic| walk_at "MY_PAD14") => `(tactic| fail)
local macro_rules | `(tactic| walk_at "MY_PAD15") => `(tactic| fail)
local macro_rules | `(tactic| walk_at "MY_PAD16") => `(tactic| fail)
local macro_rules | `(tactic| walk_at "MY_PAD17") => `(tactic| fail)
theorem reset_MElt : True := by
  w_top off
  k_with_none
  trivial
local macro_rules | `(tactic| walk_at "truthy ref") => `(tactic| (k_here; (with_reducible show wpAny _ _ (truthy (Value.ref _)) _ _ _); k_dflt (refine' my_truthyS ?N ?m ?f ?_; (case N => k_asm); (case m => k_mem); (case f => omega); k_whole; intro tk9)))
local macro_rules | `(tactic| walk_at "subscriptTail Name UnaryOp ref int") => `(tactic| (k_here; (with_reducible show wpAny _ _ (subscriptTail _ _ (Value.ref _) (Value.int (-1) _)) _ _ _); k_dflt (refine' my_last ?N ?m ?_; (case N => k_asm); (case m => k_mem); k_whole)))
local macro_rules | `(tactic| k_mem) => `(tactic| assumption)
local macro_rules | `(tactic| walk_at "exec For") => `(tactic| (k_here; (rename Fr _ _ _ _ => lF'); (with_unfolding_all refine' For_turns lF' ?_); k_whole; walk_say "MY FOR"))
local macro_rules | `(tactic| walk_at "MY_ENTERC") => `(tactic| k_dflt (refine' code_defC1 (PySem.Str.ofString "pattern") _ ?k1 ?k2 ?k3 ?k4 ?k5 ?kA ?kF ?kK ?k6 ?k7 ?k8 ?k9 ?kBe ?kB ?kB2 ?kD ?_ ?c2 ?c3 ?c4; (case kA => exact rfl); (case kF => exact rfl); (case kK => assumption); (case k1 => k_asm); (case k2 => k_asm); (case k3 => k_asm); (case k4 => k_asm); (case k5 => k_asm); (case k6 => k_is); (case k7 => k_is); (case k8 => ktr_room); (case k9 => first | exact BindsTo.of_eq rfl | exact binds_K (by k_in) rfl (by k_is) rfl rfl rfl | fail "k_enter: no rule for these arguments"); (case kBe => exact rfl); (case kB => exact fun _ => rfl); (case kB2 => exact rfl); (case kD => decide +kernel); (case c2 => exact rfl); (case c3 => exact rfl); (case c4 => exact rfl); k_whole; intro g' L' h' tk' cells' FG' F' N' Y' B' X' T' l1; (try k_lt l1); k_cells Y'; (try simp only [List.cons_append, List.nil_append] at N'); (try dsimp only); (try k_lift B'); (try k_fold)))
local macro_rules | `(tactic| walk_at "newList") => `(tactic| (k_here; k_dflt (refine' newList_K ?k1 ?k2 ?_; (case k1 => k_asm); (case k2 => k_asm); k_whole); intro l' h' F' N' l1; (try k_lt l1); (first
  | (have la9 : AllLt _ _ := l1; have lo9 := allLt_ne la9) | (have la9 : AllLt _ _ := l1.2; have lo9 := allLt_ne la9) | (have la9 : AllLt _ _ := l1.2.2; have lo9 := allLt_ne la9) | (have la9 : AllLt _ _ := l1.2.2.2; have lo9 := allLt_ne la9) | (have la9 : AllLt _ _ := l1.2.2.2.2; have lo9 := allLt_ne la9) | (have la9 : AllLt _ _ := l1.2.2.2.2.2; have lo9 := allLt_ne la9) | (have la9 : AllLt _ _ := l1.2.2.2.2.2.2; have lo9 := allLt_ne la9)
  | (have la9 : AllLt _ _ := l1.2.2.2.2.2.2.2; have lo9 := allLt_ne la9) | (have la9 : AllLt _ _ := l1.2.2.2.2.2.2.2.2; have lo9 := allLt_ne la9) | (have la9 : AllLt _ _ := l1.2.2.2.2.2.2.2.2.2; have lo9 := allLt_ne la9) | (have la9 : AllLt _ _ := l1.2.2.2.2.2.2.2.2.2.2; have lo9 := allLt_ne la9) | (have la9 : AllLt _ _ := l1.2.2.2.2.2.2.2.2.2.2.2; have lo9 := allLt_ne la9) | (have la9 : AllLt _ _ := l1.2.2.2.2.2.2.2.2.2.2.2.2; have lo9 := allLt_ne la9)
  | (have la9 : AllLt _ _ := l1.2.2.2.2.2.2.2.2.2.2.2.2.2; have lo9 := allLt_ne la9) | (have la9 : AllLt _ _ := l1.2.2.2.2.2.2.2.2.2.2.2.2.2.2; have lo9 := allLt_ne la9) | (have la9 : AllLt _ _ := l1.2.2.2.2.2.2.2.2.2.2.2.2.2.2.2; have lo9 := allLt_ne la9) | skip); (try k_sweep)))

local macro_rules | `(tactic| k_all) => `(tactic| assumption)
local macro_rules | `(tactic| walk_at "truthy str") => `(tactic| (k_here; (first | (with_reducible refine my_tr1 ?_) | (with_reducible refine my_tr0 ?_)); intro tk9))
local macro_rules | `(tactic| walk_at "subscriptTail Name Constant ref int") => `(tactic| (k_here; (with_reducible show wpAny _ _ (subscriptTail _ _ (Value.ref _) (Value.int 0 _)) _ _ _); k_dflt (refine' my_first ?N ?m ?_; (case N => k_asm); (case m => k_mem); k_whole)))
local macro_rules | `(tactic| walk_at "callWith") => `(tactic| (k_here; (with_reducible show wpAny _ _ (callWith _ (Value.builtin _) (_ :: _) (backTo _ (starEach (_ :: _) _)) []) _ _ _); refine callWith_method1 ?_))
local macro_rules | `(tactic| walk_at "subscriptTail Name Constant ref int") => `(tactic| (k_here; (with_reducible show wpAny _ _ (subscriptTail _ _ (Value.ref _) (Value.int 0 _)) _ _ _); k_dflt (refine' my_item0 ?N ?m ?_; (case N => k_asm); (case m => k_mem); k_whole)))
local macro_rules | `(tactic| walk_at "subscriptTail Name Constant ref int") => `(tactic| (k_here; (with_reducible show wpAny _ _ (subscriptTail _ _ (Value.ref _) (Value.int 1 _)) _ _ _); k_dflt (refine' my_item1 ?N ?m ?_; (case N => k_asm); (case m => k_mem); k_whole)))
local macro_rules | `(tactic| walk_at "subscriptTail Name Constant ref int") => `(tactic| (k_here; (with_reducible show wpAny _ _ (subscriptTail _ _ (Value.ref _) (Value.int 2 _)) _ _ _); k_dflt (refine' my_item2 ?N ?m ?_; (case N => k_asm); (case m => k_mem); k_whole)))
local macro_rules | `(tactic| walk_at "execs cons") => `(tactic| (k_here; (with_reducible refine my_gen (Nat.succ_pos _) ?_); intro tk htk))
local macro_rules | `(tactic| walk_at $s:str) => `(tactic| k_extra $s)
section
variable {w : World} {p : Program} {loose : List Str} {mean : ExcName → Option Value} {mg mb : Str → Option Value}
  {dp un : Nat} {gd : Option (List Code)} {cn : Str} {cs : Scope} {a : Addr} {ccd : Value} {cl : List (Str × Addr)} {outer : List Env} {A₀ : Around} {base h₀ : Heap} {L : Addr} {m : Str → Option Value} {s : Shared} {Q E : Value → Shared → Prop}
noncomputable abbrev ltScope : Scope := { kind := .function, names := [(PySem.Str.ofString ".0", .local), (PySem.Str.ofString "t", .local)], isGenerator := false, isCoroutine := false, more := [] }
noncomputable abbrev ltElt : Expr := .IfExp (.Compare (.Subscript (.Name (PySem.Str.ofString "t") ⟨166, 63, 166, 64⟩) (.Constant (.int 0) 0 ⟨166, 65, 166, 66⟩) ⟨166, 63, 166, 67⟩) [.Eq] [.Constant (.str (PySem.Str.ofString "field")) 0 ⟨166, 71, 166, 78⟩] ⟨166, 63, 166, 78⟩)
  (.Tuple [.Constant (.str (PySem.Str.ofString "field")) 0 ⟨166, 37, 166, 44⟩, .Tuple [.Subscript (.Name (PySem.Str.ofString "t") ⟨166, 47, 166, 48⟩) (.Constant (.int 1) 0 ⟨166, 49, 166, 50⟩) ⟨166, 47, 166, 51⟩, .Subscript (.Name (PySem.Str.ofString "t") ⟨166, 53, 166, 54⟩) (.Constant (.int 2) 0 ⟨166, 55, 166, 56⟩) ⟨166, 53, 166, 57⟩] 0 ⟨166, 46, 166, 58⟩] 0 ⟨166, 36, 166, 59⟩)
  (.Tuple [.Constant (.str (PySem.Str.ofString "chars")) 0 ⟨166, 85, 166, 92⟩, .Subscript (.Name (PySem.Str.ofString "t") ⟨166, 94, 166, 95⟩) (.Constant (.int 1) 0 ⟨166, 96, 166, 97⟩) ⟨166, 94, 166, 98⟩] 0 ⟨166, 84, 166, 99⟩) ⟨166, 36, 166, 99⟩
noncomputable def EltP (g : Heap) (L I C D : Addr) (m : Str → Option Value) (oI oC oD : Obj) (news : List (Addr × Obj)) (s₁ : Shared) (d : Dat) (y : Value) (s₂ : Shared) : Prop :=
  ∃ h' tk' new, s₂ = { s₁ with heap := h', toks := tk' } ∧ Fr g L h' m ∧ News g L h' ((I, oI) :: (C, oC) :: (D, oD) :: (new ++ news)) ∧ (∀ p ∈ new, (p.1 : Nat) ≠ I ∧ (p.1 : Nat) ≠ C ∧ (p.1 : Nat) ≠ D) ∧ DatIn new y d
theorem elt_end1 {g : Heap} {L I C D D1 : Addr} {m : Str → Option Value} {oI oC oD ob : Obj} {news : List (Addr × Obj)} {s₁ : Shared} {d : Dat} {y : Value} {h' : Heap} {tk' : Tok}
    (F1 : Fr g L h' m) (N1 : News g L h' ((D1, ob) :: (I, oI) :: (C, oC) :: (D, oD) :: news)) (l : I < D1 ∧ C < D1 ∧ D < D1 ∧ AllLt D1 news) (hd : DatIn [(D1, ob)] y d) : EltP g L I C D m oI oC oD news s₁ d y { s₁ with heap := h', toks := tk' } := by
  obtain ⟨l1, l2, l3, _⟩ := l
  refine ⟨h', tk', [(D1, ob)], rfl, F1, ?_, ?_, hd⟩
  · intro p hp
    rcases List.mem_cons.mp hp with rfl | hp
    · exact N1 _ (.tail _ (.head _))
    rcases List.mem_cons.mp hp with rfl | hp
    · exact N1 _ (.tail _ (.tail _ (.head _)))
    rcases List.mem_cons.mp hp with rfl | hp
    · exact N1 _ (.tail _ (.tail _ (.tail _ (.head _))))
    rcases List.mem_cons.mp hp with rfl | hp
    · exact N1 _ (.head _)
    exact N1 _ (.tail _ (.tail _ (.tail _ (.tail _ hp))))
  · intro p hp
    rcases List.mem_cons.mp hp with rfl | hp
    · exact ⟨Nat.ne_of_gt l1, Nat.ne_of_gt l2, Nat.ne_of_gt l3⟩
    cases hp
theorem elt_end2 {g : Heap} {L I C D D1 D2 : Addr} {m : Str → Option Value} {oI oC oD ob oc : Obj} {news : List (Addr × Obj)} {s₁ : Shared} {d : Dat} {y : Value} {h' : Heap} {tk' : Tok}
    (F1 : Fr g L h' m) (N1 : News g L h' ((D2, oc) :: (D1, ob) :: (I, oI) :: (C, oC) :: (D, oD) :: news)) (l0 : I < D1 ∧ C < D1 ∧ D < D1 ∧ AllLt D1 news) (l1 : D1 < D2 ∧ I < D2 ∧ C < D2 ∧ D < D2 ∧ AllLt D2 news) (hd : DatIn [(D2, oc), (D1, ob)] y d) : EltP g L I C D m oI oC oD news s₁ d y { s₁ with heap := h', toks := tk' } := by
  obtain ⟨_, l1, l2, l3, _⟩ := l1
  obtain ⟨l01, l02, l03, _⟩ := l0
  refine ⟨h', tk', [(D2, oc), (D1, ob)], rfl, F1, ?_, ?_, hd⟩
  · intro p hp
    rcases List.mem_cons.mp hp with rfl | hp
    · exact N1 _ (.tail _ (.tail _ (.head _)))
    rcases List.mem_cons.mp hp with rfl | hp
    · exact N1 _ (.tail _ (.tail _ (.tail _ (.head _))))
    rcases List.mem_cons.mp hp with rfl | hp
    · exact N1 _ (.tail _ (.tail _ (.tail _ (.tail _ (.head _)))))
    rcases List.mem_cons.mp hp with rfl | hp
    · exact N1 _ (.head _)
    rcases List.mem_cons.mp hp with rfl | hp
    · exact N1 _ (.tail _ (.head _))
    exact N1 _ (.tail _ (.tail _ (.tail _ (.tail _ (.tail _ hp)))))
  · intro p hp
    rcases List.mem_cons.mp hp with rfl | hp
    · exact ⟨Nat.ne_of_gt l1, Nat.ne_of_gt l2, Nat.ne_of_gt l3⟩
    rcases List.mem_cons.mp hp with rfl | hp
    · exact ⟨Nat.ne_of_gt l01, Nat.ne_of_gt l02, Nat.ne_of_gt l03⟩
    cases hp
theorem elt_ch {w : World} {A : Around} {g : Heap} {L I C D a : Addr} {m m₂ : Str → Option Value} {env : Env} {cl : List (Str × Addr)} {s₁ : Shared} {h : Heap} {tk t0 t1 k : Nat} {x : List Nat} {oI oC oD : Obj} {news : List (Addr × Obj)} {E' : Value → Shared → Prop}
    (X : (hd.heap_39 w.params).In g) (hm : (a, W.listOf #[.str (PySem.Str.ofString "chars") t0, .str (S x) t1] k) ∈ (I, oI) :: (C, oC) :: (D, oD) :: news) (hC : LCg.NsObj oC m₂) (hx : m₂ (PySem.Str.ofString "t") = some (.ref a)) (F : Fr g L h m) (N : News g L h ((I, oI) :: (C, oC) :: (D, oD) :: news)) :
    wpAny (model PySem.Challenge.rw_wx0001_01.row.prog w) A (eval ltElt (compEnvC ltScope cl C env)) (EltP g L I C D m oI oC oD news s₁ (Tk.ch x).tk) E' { s₁ with heap := h, toks := tk } := by
  revert X; k_fill; intro X
  k_with_none
  k_with "subscriptTail Name Constant ref int" => (k_dflt (first
    | ((with_reducible show wpAny _ _ (subscriptTail _ _ (Value.ref _) (Value.int 0 _)) _ _ _); dsimp only; refine my_item0 ‹News g L _ _› hm ?_)
    | ((with_reducible show wpAny _ _ (subscriptTail _ _ (Value.ref _) (Value.int 1 _)) _ _ _); dsimp only; refine my_item1 ‹News g L _ _› hm ?_)
    | ((with_reducible show wpAny _ _ (subscriptTail _ _ (Value.ref _) (Value.int 2 _)) _ _ _); dsimp only; refine my_item2 ‹News g L _ _› hm ?_)))
  k_with "eval Name" => (k_dflt (refine LCgL.ld_own ‹News g L _ _› (List.Mem.tail _ (List.Mem.head _)) hC hx ?_))
  k_steps
  (rename Fr _ _ _ _ => F1; rename News _ _ _ _ => N1; rename And _ _ => l1)
  exact elt_end1 F1 N1 l1 (.tuple (vs := [_, _]) (.head _) (.cons (.str _ _) (.cons (.str _ _) .nil)))
theorem elt_fd {w : World} {A : Around} {g : Heap} {L I C D a : Addr} {m m₂ : Str → Option Value} {env : Env} {cl : List (Str × Addr)} {s₁ : Shared} {h : Heap} {tk t0 t1 t2 k c n : Nat} {oI oC oD : Obj} {news : List (Addr × Obj)} {E' : Value → Shared → Prop}
    (X : (hd.heap_39 w.params).In g) (hm : (a, W.listOf #[.str (PySem.Str.ofString "field") t0, .str (S [c]) t1, .int n t2] k) ∈ (I, oI) :: (C, oC) :: (D, oD) :: news) (hC : LCg.NsObj oC m₂) (hx : m₂ (PySem.Str.ofString "t") = some (.ref a)) (F : Fr g L h m) (N : News g L h ((I, oI) :: (C, oC) :: (D, oD) :: news)) :
    wpAny (model PySem.Challenge.rw_wx0001_01.row.prog w) A (eval ltElt (compEnvC ltScope cl C env)) (EltP g L I C D m oI oC oD news s₁ (Tk.fd c n).tk) E' { s₁ with heap := h, toks := tk } := by
  revert X; k_fill; intro X
  k_with_none
  k_with "subscriptTail Name Constant ref int" => (k_dflt (first
    | ((with_reducible show wpAny _ _ (subscriptTail _ _ (Value.ref _) (Value.int 0 _)) _ _ _); dsimp only; refine my_item0 ‹News g L _ _› hm ?_)
    | ((with_reducible show wpAny _ _ (subscriptTail _ _ (Value.ref _) (Value.int 1 _)) _ _ _); dsimp only; refine my_item1 ‹News g L _ _› hm ?_)
    | ((with_reducible show wpAny _ _ (subscriptTail _ _ (Value.ref _) (Value.int 2 _)) _ _ _); dsimp only; refine my_item2 ‹News g L _ _› hm ?_)))
  k_with "eval Name" => (k_dflt (refine LCgL.ld_own ‹News g L _ _› (List.Mem.tail _ (List.Mem.head _)) hC hx ?_))
  k_steps
  (rename Fr _ _ _ _ => F1; rename News _ _ _ _ => N1)
  rename And _ (And _ (And _ (And _ (AllLt _ _)))) => l1
  rename And _ (And _ (And _ (AllLt _ _))) => l0
  exact elt_end2 F1 N1 l0 l1 (.tuple (vs := [_, _]) (.head _) (.cons (.str _ _) (.cons (.tuple (vs := [_, _]) (.tail _ (.head _)) (.cons (.str _ _) (.cons (.int _ _) .nil))) .nil)))

theorem law_kst {u m₀ : Str → Option Value} {v : Value} {z : Str} (h1 : z ≠ PySem.Str.ofString "pattern") (h2 : lawSt.contains z = false) : kstB (fun z => if lawSt.contains z then u z else m₀ z) [(PySem.Str.ofString "pattern", v)] z = m₀ z := by
  unfold kstB
  simp only [h1, h2, if_false, Bool.false_eq_true, kstB]
theorem law_ne {z : Str} (h2 : lawSt.contains z = false) : z ≠ PySem.Str.ofString "n" ∧ z ≠ PySem.Str.ofString "number" := by
  constructor
  · rintro rfl
    exact absurd h2 (by decide)
  · rintro rfl
    exact absurd h2 (by decide)

end
end Mine

-- MLaw
namespace Mine
set_option maxRecDepth 100000
set_option maxHeartbeats 8000000
local macro_rules | `(tactic| walk_at "MY_PAD0") => `(tactic| fail)
local macro_rules | `(tactic| walk_at "MY_PAD1") => `(tactic| fail)
local macro_rules | `(tactic| walk_at "MY_PAD2") => `(tactic| fail)
local macro_rules | `(tactic| walk_at "MY_PAD3") => `(tactic| fail)
local macro_rules | `(tactic| walk_at "MY_PAD4") => `(tactic| fail)
local macro_rules | `(tactic| walk_at "MY_PAD5") => `(tactic| fail)
local macro_rules | `(tactic| walk_at "MY_PAD6") => `(tactic| fail)
local macro_rules | `(tactic| walk_at "MY_PAD7") => `(tactic| fail)
local macro_rules | `(tactic| walk_at "MY_PAD8") => `(tactic| fail)
local macro_rules | `(tactic| walk_at "MY_PAD9") => `(tactic| fail)
local macro_rules | `(tactic| walk_at "MY_PAD10") => `(tactic| fail)
local macro_rules | `(tactic| walk_at "MY_PAD11") => `(tactic| fail)
local macro_rules | `(tactic| walk_at "MY_PAD12") => `(tactic| fail)
local macro_rules | `(tactic| walk_at "MY_PAD13") => `(tactic| fail)
local macro_rules | `(tactic| walk_at "MY_PAD14") => `(tactic| fail)
local macro_rules | `(tactic| walk_at "MY_PAD15") => `(tactic| fail)
local macro_rules | `(tactic| walk_at "MY_PAD16") => `(tactic| fail)
local macro_rules | `(tactic| walk_at "MY_PAD17") => `(tactic| fail)
local macro_rules | `(tactic| walk_at "MY_PAD18") => `(tactic| fail)
theorem reset_MLaw : True := by
  w_top off
  k_with_none
  trivial
local macro_rules | `(tactic| walk_at "truthy ref") => `(tactic| (k_here; (with_reducible show wpAny _ _ (truthy (Value.ref _)) _ _ _); k_dflt (refine' my_truthyS ?N ?m ?f ?_; (case N => k_asm); (case m => k_mem); (case f => omega); k_whole; intro tk9)))
local macro_rules | `(tactic| walk_at "subscriptTail Name UnaryOp ref int") => `(tactic| (k_here; (with_reducible show wpAny _ _ (subscriptTail _ _ (Value.ref _) (Value.int (-1) _)) _ _ _); k_dflt (refine' my_last ?N ?m ?_; (case N => k_asm); (case m => k_mem); k_whole)))
local macro_rules | `(tactic| k_mem) => `(tactic| assumption)
local macro_rules | `(tactic| walk_at "exec For") => `(tactic| (k_here; (rename Fr _ _ _ _ => lF'); (with_unfolding_all refine' For_turns lF' ?_); k_whole; walk_say "MY FOR"))
local macro_rules | `(tactic| walk_at "MY_ENTERC") => `(tactic| k_dflt (refine' code_defC1 (PySem.Str.ofString "pattern") _ ?k1 ?k2 ?k3 ?k4 ?k5 ?kA ?kF ?kK ?k6 ?k7 ?k8 ?k9 ?kBe ?kB ?kB2 ?kD ?_ ?c2 ?c3 ?c4; (case kA => exact rfl); (case kF => exact rfl); (case kK => assumption); (case k1 => k_asm); (case k2 => k_asm); (case k3 => k_asm); (case k4 => k_asm); (case k5 => k_asm); (case k6 => k_is); (case k7 => k_is); (case k8 => ktr_room); (case k9 => first | exact BindsTo.of_eq rfl | exact binds_K (by k_in) rfl (by k_is) rfl rfl rfl | fail "k_enter: no rule for these arguments"); (case kBe => exact rfl); (case kB => exact fun _ => rfl); (case kB2 => exact rfl); (case kD => decide +kernel); (case c2 => exact rfl); (case c3 => exact rfl); (case c4 => exact rfl); k_whole; intro g' L' h' tk' cells' FG' F' N' Y' B' X' T' l1; (try k_lt l1); k_cells Y'; (try simp only [List.cons_append, List.nil_append] at N'); (try dsimp only); (try k_lift B'); (try k_fold)))
local macro_rules | `(tactic| walk_at "newList") => `(tactic| (k_here; k_dflt (refine' newList_K ?k1 ?k2 ?_; (case k1 => k_asm); (case k2 => k_asm); k_whole); intro l' h' F' N' l1; (try k_lt l1); (first
  | (have la9 : AllLt _ _ := l1; have lo9 := allLt_ne la9) | (have la9 : AllLt _ _ := l1.2; have lo9 := allLt_ne la9) | (have la9 : AllLt _ _ := l1.2.2; have lo9 := allLt_ne la9) | (have la9 : AllLt _ _ := l1.2.2.2; have lo9 := allLt_ne la9) | (have la9 : AllLt _ _ := l1.2.2.2.2; have lo9 := allLt_ne la9) | (have la9 : AllLt _ _ := l1.2.2.2.2.2; have lo9 := allLt_ne la9) | (have la9 : AllLt _ _ := l1.2.2.2.2.2.2; have lo9 := allLt_ne la9)
  | (have la9 : AllLt _ _ := l1.2.2.2.2.2.2.2; have lo9 := allLt_ne la9) | (have la9 : AllLt _ _ := l1.2.2.2.2.2.2.2.2; have lo9 := allLt_ne la9) | (have la9 : AllLt _ _ := l1.2.2.2.2.2.2.2.2.2; have lo9 := allLt_ne la9) | (have la9 : AllLt _ _ := l1.2.2.2.2.2.2.2.2.2.2; have lo9 := allLt_ne la9) | (have la9 : AllLt _ _ := l1.2.2.2.2.2.2.2.2.2.2.2; have lo9 := allLt_ne la9) | (have la9 : AllLt _ _ := l1.2.2.2.2.2.2.2.2.2.2.2.2; have lo9 := allLt_ne la9)
  | (have la9 : AllLt _ _ := l1.2.2.2.2.2.2.2.2.2.2.2.2.2; have lo9 := allLt_ne la9) | (have la9 : AllLt _ _ := l1.2.2.2.2.2.2.2.2.2.2.2.2.2.2; have lo9 := allLt_ne la9) | (have la9 : AllLt _ _ := l1.2.2.2.2.2.2.2.2.2.2.2.2.2.2.2; have lo9 := allLt_ne la9) | skip); (try k_sweep)))

local macro_rules | `(tactic| k_all) => `(tactic| assumption)
local macro_rules | `(tactic| walk_at "truthy str") => `(tactic| (k_here; (first | (with_reducible refine my_tr1 ?_) | (with_reducible refine my_tr0 ?_)); intro tk9))
local macro_rules | `(tactic| walk_at "subscriptTail Name Constant ref int") => `(tactic| (k_here; (with_reducible show wpAny _ _ (subscriptTail _ _ (Value.ref _) (Value.int 0 _)) _ _ _); k_dflt (refine' my_first ?N ?m ?_; (case N => k_asm); (case m => k_mem); k_whole)))
local macro_rules | `(tactic| walk_at "callWith") => `(tactic| (k_here; (with_reducible show wpAny _ _ (callWith _ (Value.builtin _) (_ :: _) (backTo _ (starEach (_ :: _) _)) []) _ _ _); refine callWith_method1 ?_))
local macro_rules | `(tactic| walk_at "subscriptTail Name Constant ref int") => `(tactic| (k_here; (with_reducible show wpAny _ _ (subscriptTail _ _ (Value.ref _) (Value.int 0 _)) _ _ _); k_dflt (refine' my_item0 ?N ?m ?_; (case N => k_asm); (case m => k_mem); k_whole)))
local macro_rules | `(tactic| walk_at "subscriptTail Name Constant ref int") => `(tactic| (k_here; (with_reducible show wpAny _ _ (subscriptTail _ _ (Value.ref _) (Value.int 1 _)) _ _ _); k_dflt (refine' my_item1 ?N ?m ?_; (case N => k_asm); (case m => k_mem); k_whole)))
local macro_rules | `(tactic| walk_at "subscriptTail Name Constant ref int") => `(tactic| (k_here; (with_reducible show wpAny _ _ (subscriptTail _ _ (Value.ref _) (Value.int 2 _)) _ _ _); k_dflt (refine' my_item2 ?N ?m ?_; (case N => k_asm); (case m => k_mem); k_whole)))
local macro_rules | `(tactic| walk_at "execs cons") => `(tactic| (k_here; (with_reducible refine my_gen (Nat.succ_pos _) ?_); intro tk htk))
local macro_rules | `(tactic| walk_at $s:str) => `(tactic| k_extra $s)
section
variable {w : World} {p : Program} {loose : List Str} {mean : ExcName → Option Value} {mg mb : Str → Option Value}
  {dp un : Nat} {gd : Option (List Code)} {cn : Str} {cs : Scope} {a : Addr} {ccd : Value} {cl : List (Str × Addr)} {outer : List Env} {A₀ : Around} {base h₀ : Heap} {L : Addr} {m : Str → Option Value} {s : Shared} {Q E : Value → Shared → Prop}
theorem law_holds : PySem.Challenge.rw_wx0001_01.Holds := by
  exact hd (by
    k_fill
    intro w s₀ s₁ mg mb G Y fa o pm cd doc dV kV ho hd hcd hD hmg hg args vals as hpre hlay hrd hwl hlo
    have KX := km_in_of Y
    km_tabs Y
    have X := (Ground.X G).1
    have V := (Ground.X G).2
    refine Ground.open G ?_
    intro T B D TE TW
    try (refine guard_noD D (by decide +kernel) ?_; clear D)
    have hT9 : TabsAt [(101, 97), (108, 104)] s₁.heap := List.forall_mem_cons.mpr ⟨⟨codeHd_of_K (c := 101) (P := 97) KX (by kernel_rfl), hT8 97 (by k_mem)⟩, List.forall_mem_cons.mpr ⟨tab_of (x := PySem.Str.ofString "untokenize_pattern") (c := 108) (P := 104) T KX rfl (by kernel_rfl), fun _ h => nomatch h⟩⟩
    clear hmg
    wrow_args hpre hlay hrd hwl hlo
    all_goals (
      first | refine callC_kw (enter_call ?_) | refine enter_call ?_
      w_top on
      refine law_post hT9 (fun _ _ => rfl) (law_claim _) ?_
      w_call any ho hd hcd hD T F
      clear hd
      kn_ghosts F T
      k_drop
      skip)
    (all_goals try k_fold)
    k_with_none
    k_with "exec For Name Subscript cons nil" => (
      (rename Fr _ _ _ _ => lF')
      (with_unfolding_all refine' For_turns lF' ?_))
    k_with "pyIter ref" => (
      (rename News _ _ _ _ => N0); (rename Fr _ _ _ _ => F0)
      (rename IntsAre _ (List.take 12 _) => hI0)
      refine law_loop rfl F0 N0 (.head _) hI0 (by rw [hI0.length, List.length_take]; omega) rfl (fun i k tk0 x t own u h7 tk7 T7 hk hx hxo fin F7 N7 => ?_) (fun x t u h7 tk7 hx hxo F7 N7 => ?_)
      all_goals clear F0 N0)
    k_with "subscriptTail Name BinOp ref int" => (first
      | (k_dflt (refine' my_piece ?F ?X ?z0 ?z1 ?_)
         (case F => k_asm)
         (case X => k_asm)
         (case z0 => exact (fm24 _).1)
         (case z1 => exact (fm24 _).2)
         intro p tp hpl hpo)
      | (k_dflt (refine' my_tail ?F ?X ?z0 ?z1 ?_)
         (case F => k_asm)
         (case X => k_asm)
         (case z0 => exact (fd24 _).1)
         (case z1 => exact (fd24 _).2)
         intro q tq hql hqo))
    k_with "binaryOp Add str str" => (
      (try rw [lit_close])
      (with_reducible refine my_addS (by first | omega | (simp only [List.length_append]; omega)) (by first | omega | decide) ?_)
      intro ta ka)
    k_with "exec If" => (k_dflt (first
      | ((rename LTag 1 => tg; clear tg; rename Fr _ _ _ _ => F0; refine my_cut1 s₁.os F0 ?_ (fun s7 hI => ?_))
         rotate_left 1
         obtain ⟨x1, r1, t1, o1, vs1, n1, R1, u1, ha1, hx1, hr1, hg1, hos1, hL1, F71⟩ := hI
         have hnrm1 := okTk_r ha1 hr1
         have hsz1 := szs_r hr1
         have hsz2 : szs (tokR x1).reverse ≤ 900 := by rw [szs_rev]; have := tok_szs (repL_length x1); omega
         have hokr : ∀ t ∈ r1.reverse, okTk t := fun t ht => nrm_all hnrm1 t (List.mem_reverse.mp ht)
         have hszr : szs r1.reverse ≤ 900 := by rw [szs_rev]; omega
         have N71 := hL1.news
         have tg := LTag.mk 2
         rotate_right 1)
      | ((rename LTag 3 => tg; clear tg; rename Fr _ _ _ _ => F0; refine my_cut3 s₁.os x1 r1 F0 ?_ (fun s7 hI => ?_))
         rotate_left 1
         (clear hPV)
         obtain ⟨t3, o3, vs3, n3, ps3, R3, u3, hg3, hos3, hL3, F73⟩ := hI
         have N73 := hL3.news
         rotate_right 1
         (rcases hPV with hsf | ⟨o4, d4, k41, k42, t41, t44, nn4, f4, hst, hmo, hmd⟩)
         rotate_left 1
         have hmo' := List.Mem.tail (97, tabObj ps2) hmo
         have hmd' := List.Mem.tail (97, tabObj ps2) hmd
         rotate_right 1)))
    k_with "exec Try" => (k_dflt (
      (rename LTag 2 => tg; clear tg; rename Fr _ _ _ _ => F0; refine my_cut2 s₁.os w.params x1 r1 F0 ?_ (fun s7 hI => ?_))
      rotate_left 1
      obtain ⟨t2, o2, vs2, n2, ps2, R2, pv2, u2, hg2, hos2, hL2, hPV, F72⟩ := hI
      have N72 := hL2.news
      have tg := LTag.mk 3
      rotate_right 1))
    k_with "eval ListComp" => (k_dflt (
      (rename LN _ _ _ _ _ _ _ _ _ _ => hL0)
      (refine' LCg.ListComp_U ?F0 (by rfl) (by decide) (by rfl) (by decide) (by rfl) ?_)
      (case F0 => k_asm)
      (refine' ld ?f0 ?v0 ?_)
      (case f0 => k_asm)
      (case v0 => exact rfl)
      (refine' comp_toks (ts := r1.reverse) rfl ?Fc hL0.news (List.Mem.tail _ hL0.lst) (hL0.dat.mono fun p hp => List.Mem.tail _ hp) (ln_len hL0 hszr) (fun v t news I C D oI oC oD m₂ h tk E' ht hG hC hx F' N' => ?_) (fun ys news D h tk hdat hsub F' N' hne => ?_))
      (case Fc => k_asm)
      (rcases hG with ⟨t0, t1, k, hm⟩ | ⟨t0, t1, t2, k, hm⟩)
      (exact elt_ch (by k_asm) hm hC hx F' N')
      (exact elt_fd (by k_asm) hm hC hx F' N')
      (obtain ⟨RU, hU⟩ := un_of hL0 hsub hdat N')
      (have NU := hU.news)
      (clear hL0 N')))
    k_with "compareOp Eq str str" => (with_reducible refine my_eqS ?_)
    k_with "compareOp Eq ref ref" => (
      k_dflt (refine' my_eqL ?N ?d1 ?d2 ?ok ?u ?_)
      (case N => k_asm)
      (case d1 => assumption)
      (case d2 => assumption)
      (case ok => exact ok_rds (nrm_all (by assumption)))
      (case u => ktr_units)
      (try (have Nq := hLy.news; clear Ny)))
    k_with "compareOp Eq ref ref" => (
      (rename LTag 5 => tg)
      k_dflt (refine' my_eqT ?N ?m1 ?m2 ?d1 ?d2 ?ok ?u ?_)
      (case N => k_asm)
      (case m1 => exact List.Mem.tail _ (List.Mem.head _))
      (case m2 => exact List.Mem.head _)
      (case d1 => exact hdy.mono fun p hp => List.Mem.tail _ hp)
      (case d2 => exact hdz.mono fun p hp => List.Mem.tail _ hp)
      (case ok => exact ok_rds (nrm_all (by assumption)))
      (case u => ktr_units)
      (clear tg)
      (rename News _ _ _ _ => Nq0)
      (rename LN _ _ _ _ _ _ _ _ _ _ => hL0)
      (have hLW := ln_keep hL0 Nq0 (fun p hp => List.Mem.tail _ (hsubW p hp)))
      (clear hL0 hsubW)
      (have Nq := hLW.news))
    k_with "call ref" => (k_dflt (first
      | ((with_reducible_and_instances show wpAny _ _ (call (Value.ref 126) _) _ _ _)
         (k_dflt (refine' reads_spec (x := x) ?k1 ?k2 ?k3 ?k4 ?k5 ?k6 ?k7 ?k8 ?k9 ?_))
         (case k1 => k_asm)
         (case k2 => k_asm)
         (case k3 => k_asm)
         (case k4 => k_asm)
         (case k5 => k_asm)
         (case k6 => exact rfl)
         (case k7 => ktr_room)
         (case k8 => ktr_units)
         (case k9 => omega)
         intro o9 tup9 nx9 h9 tk9 hB9 hlt9 F9 N9
         have tg := LTag.mk 1)
      | ((with_reducible_and_instances show wpAny _ _ (call (Value.ref 119) _) _ _ _)
         (rw [lit_blank])
         (k_dflt (refine' add_spec ?k1 ?k2 ?k3 ?k4 ?k5 ?k6 ?k7 ?k8 ?k9 ?k10 ?k11 ?_))
         (case k1 => k_asm)
         (case k2 => k_asm)
         (case k3 => k_asm)
         (case k4 => (rename News _ _ _ _ => N0; exact fun p hp => N0 p (.tail _ hp)))
         (case k5 => k_asm)
         (case k6 => exact rfl)
         (case k7 => ktr_room)
         (case k8 => ktr_units)
         (case k9 => assumption)
         (case k10 => (have := readR_szs x.length x (Nat.le_refl _) false []; have e0 : szs [] = 0 := rfl; omega))
         (case k11 => decide)
         intro nx8 h8 tk8 hB8 F8 N8)
      | ((with_reducible_and_instances show wpAny _ _ (call (Value.ref 102) _) _ _ _)
         (rename LN _ _ _ _ _ _ _ _ _ _ => hL0)
         (k_dflt (refine' tok_spec0 ?k1 ?k2 ?k3 ?k4 ?k5 ?k6 ?k7 ?k8 ?k9 ?k10 ?k11 ?k12 ?_))
         (case k1 => k_asm)
         (case k2 => k_asm)
         (case k3 => k_asm)
         (case k4 => k_asm)
         (case k5 => k_asm)
         (case k6 => kn_code)
         (case k7 => exact rfl)
         (case k8 => ktr_room)
         (case k9 => ktr_units)
         (case k10 => omega)
         (case k11 => exact hL0.tab)
         (case k12 => exact hL0.h97)
         intro ox nnx vsx psx Rx hhx tkx hSx h97x hRx hrox hmx hdx Fx Nx
         have hLx := ln_grow hL0 hRx Nx hSx h97x
         clear hL0 hSx h97x hRx hrox)
      | ((with_reducible_and_instances show wpAny _ _ (call (Value.ref 133) _) _ _ _)
         (rename LN _ _ _ _ _ _ _ _ _ _ => hL0)
         (k_dflt (refine' told_spec ?k1 ?k2 ?k3 ?k4 ?k5 ?k6 ?k7 ?k8 ?k9 ?k10 ?k11 ?k12 ?_))
         (case k1 => k_asm)
         (case k2 => k_asm)
         (case k3 => k_asm)
         (case k4 => k_asm)
         (case k5 => k_asm)
         (case k6 => exact rfl)
         (case k7 => ktr_room)
         (case k8 => ktr_units)
         (case k9 => exact List.Mem.tail _ hmx)
         (case k10 => exact hdx.mono fun p hp => List.Mem.tail _ hp)
         (case k11 => assumption)
         (case k12 => exact fun y hy => tok_ne _ y (List.mem_reverse.mp hy))
         intro oy nxy hhy tky hBy Fy Ny
         rw [told_tok (by assumption) (by assumption)] at hBy
         have hdy := hBy.dat
         have hdz := (ln_dat hL0).mono hBy.rest
         have hLy := ln_keep hL0 Ny hBy.rest
         clear hL0 hmx hdx hBy)
      | ((with_reducible_and_instances show wpAny _ _ (call (Value.ref 95) _) _ _ _)
         (rename LN _ _ _ _ _ _ _ _ _ _ => hL0)
         (k_dflt (refine' cached_spec (r := r1) ?k1 ?k2 ?k3 ?k4 ?k5 ?k6 ?k7 ?k8 ?k9 ?k10 ?k11 ?k12 ?k13 ?k14 ?_ ?_))
         (case k1 => k_asm)
         (case k2 => k_asm)
         (case k3 => k_asm)
         (case k4 => k_asm)
         (case k5 => k_asm)
         (case k6 => kn_code)
         (case k7 => exact rfl)
         (case k8 => ktr_room)
         (case k9 => ktr_units)
         (case k10 => omega)
         (case k11 => exact ha1)
         (case k12 => exact hr1)
         (case k13 => exact hL0.tab)
         (case k14 => exact hL0.h97)
         (intro hst oz dz kz1 kz2 tz4 nnz fz psz Rz hhz tkz hSz h97z hRz h97d hltd hdo Fz Nz)
         rotate_left 1
         (intro hsf ez psz Rz gz hhz tkz hSz h97z hRz Fz Rsd Uz)
         rotate_right 1)
      | ((with_reducible_and_instances show wpAny _ _ (call (Value.ref 140) _) _ _ _)
         (rename sound _ = false => hsf)
         (rename LN _ _ _ _ _ _ _ _ _ _ => hL0)
         (k_dflt (refine' soundH_spec (ts := r1.reverse) (by rw [sound_rev]; exact hsf) ?k1 ?k2 ?k3 ?k4 ?k5 ?k6 ?k7 ?k8 ?k9 ?k10 ?k11 ?k12 ?_))
         (case k1 => k_asm)
         (case k2 => k_asm)
         (case k3 => k_asm)
         (case k4 => k_asm)
         (case k5 => k_asm)
         (case k6 => exact rfl)
         (case k7 => ktr_room)
         (case k8 => ktr_units)
         (case k9 => exact List.Mem.tail _ (hRz _ hL0.lst))
         (case k10 => exact hL0.dat.mono fun p hp => List.Mem.tail _ (hRz p hp))
         (case k11 => exact hokr)
         (case k12 => exact hszr)
         intro h9 tk9 F9 N9
         rw [sound_rev, hsf])
      | ((with_reducible_and_instances show wpAny _ _ (call (Value.ref 140) _) _ _ _)
         (rename sound _ = true => hst)
         (rename LN _ _ _ _ _ _ _ _ _ _ => hL0)
         (k_dflt (refine' sound_spec (ts := r1.reverse) ?k1 ?k2 ?k3 ?k4 ?k5 ?k6 ?k7 ?k8 ?k9 ?k10 ?k11 ?k12 ?_))
         (case k1 => k_asm)
         (case k2 => k_asm)
         (case k3 => k_asm)
         (case k4 => k_asm)
         (case k5 => k_asm)
         (case k6 => exact rfl)
         (case k7 => ktr_room)
         (case k8 => ktr_units)
         (case k9 => exact List.Mem.tail _ hL0.lst)
         (case k10 => exact hL0.dat.mono fun p hp => List.Mem.tail _ hp)
         (case k11 => exact hokr)
         (case k12 => exact hszr)
         intro h9 tk9 F9 N9
         rw [sound_rev, hst])
      | ((with_reducible_and_instances show wpAny _ _ (call (Value.ref 147) _) _ _ _)
         (rename LN _ _ _ _ _ _ _ _ _ _ => hL0)
         (k_dflt (refine' clear_spec (ts := r1.reverse) ?k1 ?k2 ?k3 ?k4 ?k5 ?k6 ?k7 ?k8 ?k9 ?k10 ?k11 ?_))
         (case k1 => k_asm)
         (case k2 => k_asm)
         (case k3 => k_asm)
         (case k4 => k_asm)
         (case k5 => k_asm)
         (case k6 => exact rfl)
         (case k7 => ktr_room)
         (case k8 => ktr_units)
         (case k9 => exact List.Mem.tail _ hL0.lst)
         (case k10 => exact hL0.dat.mono fun p hp => List.Mem.tail _ hp)
         (case k11 => exact hszr)
         intro h9 tk9 F9 N9
         rw [clear_rev]
         have hL9 := ln_keep hL0 N9 fun _ h => h
         clear hL0
         generalize hcl : clear r1 = bcl
         cases bcl)
      | ((with_reducible_and_instances show wpAny _ _ (call (Value.ref 109) _) _ _ _)
         (k_dflt (refine' unt_spec (ts := r1.reverse) ?k1 ?k2 ?k3 ?k4 ?k5 ?k6 ?k7 ?k8 ?k9 ?k10 ?k11 ?k12 ?k13 ?k14 ?k15 ?_))
         (case k1 => k_asm)
         (case k2 => k_asm)
         (case k3 => k_asm)
         (case k4 => exact hU.news)
         (case k5 => k_asm)
         (case k6 => kn_code)
         (case k7 => exact rfl)
         (case k8 => ktr_room)
         (case k9 => ktr_units)
         (case k10 => exact hU.lstD)
         (case k11 => exact hU.datD)
         (case k12 => exact hszr)
         (case k13 => exact hU.tabg)
         (case k14 => exact hU.h104)
         (case k15 => exact AllBare.of_eq hg3)
         intro tU sU psU FU NU' hGU hBU hosU
         (obtain ⟨RV, hLV⟩ := ln_of_un hU NU' hGU)
         (have NV := hLV.news)
         (have hosV := hosU.trans hos3)
         (clear hU NU')
         (have hxU := unt_ok hnrm1)
         (have hlU : (unt r1.reverse).length ≤ 400 := Nat.le_trans (unt_len _) (by rw [szs_rev]; omega))
         (have hrU := unt_reads hnrm1 hcl)
         (have hsz3 : szs (tokR (unt r1.reverse)).reverse ≤ 900 := by rw [szs_rev]; have := tok_szs (repL_length (unt r1.reverse)); omega)
         have tg := LTag.mk 5)
      | ((with_reducible_and_instances show wpAny _ _ (call (Value.ref 126) _) _ _ _)
         (rename LTag 5 => tg)
         (rename LN _ _ _ _ _ _ _ _ _ _ => hL0)
         (k_dflt (refine' reads_spec (x := unt r1.reverse) ?k1 ?k2 ?k3 ?k4 ?k5 ?k6 ?k7 ?k8 ?k9 ?_))
         (case k1 => k_asm)
         (case k2 => k_asm)
         (case k3 => k_asm)
         (case k4 => k_asm)
         (case k5 => k_asm)
         (case k6 => exact rfl)
         (case k7 => ktr_room)
         (case k8 => ktr_units)
         (case k9 => exact hlU)
         intro o9 tup9 nx9 h9 tk9 hB9 hlt9 F9 N9
         rw [hrU] at hB9 N9
         have hdy := hB9.dat.mono (fun p hp => List.Mem.tail (tup9, ({ cls := .type "tuple", data := .seq #[.ref o9, .bool false] } : Obj)) hp)
         have hdz := (ln_dat hL0).mono (fun p hp => List.Mem.tail (tup9, ({ cls := .type "tuple", data := .seq #[.ref o9, .bool false] } : Obj)) (hB9.rest p hp))
         have hsubW := fun p hp => List.Mem.tail (tup9, ({ cls := .type "tuple", data := .seq #[.ref o9, .bool false] } : Obj)) (hB9.rest p hp))
      ))
    k_steps
    all_goals (try (rename Fr _ _ _ _ => Fz; rename News _ _ _ _ => Nz))
    all_goals first
      | (refine fin (p ++ q) _ _ _ _ ?_ ?_ Fz Nz ?_ ?_
         · rw [List.length_append]; omega
         · (intro d hd; rcases List.mem_append.mp hd with hd | hd; (exact hpo d hd); (exact hqo d hd))
         · rw [← List.append_assoc]; rfl
         · (intro z h1 h2
            have h3 := h2
            simp only [lawSt, List.contains_cons, List.contains_nil, Bool.or_false, Bool.or_eq_false_iff, beq_eq_false_iff_ne, ne_eq] at h2
            obtain ⟨h4, h5⟩ := h2
            simp only [kstB, h1, h3, h4, h5, if_false, Bool.false_eq_true]))
      | (exact inv1_end (ok_close hxo) (by rw [List.length_append]; exact Nat.add_le_add_right hx 2 |>.trans (by decide)) (readR_close (Prod.ext rfl (by assumption))) (by assumption) rfl hB8 Nz (by k_mem) (by k_mem) Fz rfl rfl)
      | (exact inv1_end hxo (by omega) (Prod.ext rfl (by assumption)) (by assumption) rfl hB9 (fun p hp => Nz p (.tail _ hp)) (by k_mem) (by k_mem) Fz rfl rfl)
      | (exact inv2_end hg1 hos1 (ln_obj hL0 hRz (by assumption) hSz h97z h97d hdo) (.obj _ _ _ _ _ _ _ _ hst (.head _) (.tail _ (.head _))) Fz rfl rfl rfl rfl)
      | (exact inv2_end hg1 hos1 (ln_grow hL0 hRz Nz hSz h97z) (.none hsf) Fz rfl rfl rfl rfl)
      | (exact inv3_end hg2 hos2 (ln_keep hL2 Nz fun _ h => h) Fz rfl rfl rfl)
      | (dsimp only; exact law_end rfl Fz (ln_keep hL9 Nz fun _ h => h) hos3 (.of_eq hg3))
      | (dsimp only; exact law_end rfl Fz (ln_keep hLy Nz fun _ h => h) hosV hBU)
      | skip
    · dsimp only at Fz ⊢
      refine fin (p ++ q) ta _ _ _ ?_ ?_ Fz Nz ?_ ?_
      · rw [List.length_append]; omega
      · (intro d hd; rcases List.mem_append.mp hd with hd | hd; (exact hpo d hd); (exact hqo d hd))
      · rw [← List.append_assoc]; exact if_pos rfl
      · intro z h1 h2
        obtain ⟨h4, h5⟩ := law_ne h2
        refine (if_neg h1).trans ((if_neg h4).trans ((if_neg h5).trans ?_))
        exact law_kst h1 h2
    · exact inv1_end (ok_close hxo) (by rw [List.length_append]; exact Nat.le_trans (Nat.add_le_add_right hx 2) (by decide)) (readR_close (Prod.ext rfl (by assumption))) (by assumption) rfl hB8 Nz (by k_mem) (by k_mem) Fz rfl rfl
    · (rename LN _ _ _ _ _ _ _ _ _ _ => hLq)
      exact inv3_end hg2 hos2 (ln_keep hLq Nz fun _ h => h) Fz rfl rfl rfl)

end
end Mine

theorem PySem.Challenge.cw_wx0001_01_holds : PySem.Challenge.rw_wx0001_01.Holds := by
  exact Mine.law_holds
