import PyProof.Rows.All
import Wide.All
import OpenK.AllK
import Wide.FinOn
import Lean
import PySem.Challenge.RW_ko0129_01
open PySem PySem.W PyProof.Rows PySem.Calls
set_option Elab.async false
set_option maxRecDepth 100000
namespace Mine
theorem kind_issub_nested : builtinKind "issubclass.nested" = none := by decide +kernel
theorem plain_issub_nested : plainId "issubclass.nested" = true := by decide +kernel
theorem args_issub_nested_3 (a b c : Value) : argsOk "issubclass.nested" ⟨[a, b, c], []⟩ := by unfold argsOk; kernel_rfl
theorem sub_str_str : isSubtype (.type "str") (.type "str") = pure true := by rw [isSubtype_type]; kernel_rfl
theorem sub_bytes_str : isSubtype (.type "bytes") (.type "str") = pure false := by rw [isSubtype_type]; kernel_rfl
theorem sub_bytes_bytes : isSubtype (.type "bytes") (.type "bytes") = pure true := by rw [isSubtype_type]; kernel_rfl
theorem ty_str : typeOf (.type "str") = pure (.type "type") := rfl
theorem ty_bytes : typeOf (.type "bytes") = pure (.type "type") := rfl

section
variable {prog : Program} {w : World} {A : Around} {E : Value → Shared → Prop}
theorem issub_nested_type {X T : String} {b : Bool} {dep : Int} {tk : Tok} {s : Shared} {Q : Fin → Shared → Prop} (hX : typeOf (.type X) = pure (.type "type")) (hT : typeOf (.type T) = pure (.type "type"))
    (hs : isSubtype (.type X) (.type T) = pure b) (hq : Q (.done (.ret (.bool b))) s) :
    wpAny (model prog w) A (Builtin.«issubclass.nested» ⟨[.type X, .type T, .int dep tk], []⟩) Q E s := by
  repeat (any_goals (first | assumption | (rw [hs]) | wp_step))
theorem issub_meets {X T : String} {b : Bool} {dep : Int} {tk : Tok} (hX : typeOf (.type X) = pure (.type "type")) (hT : typeOf (.type T) = pure (.type "type")) (hs : isSubtype (.type X) (.type T) = pure b) :
    Meets (Builtin.«issubclass.nested» ⟨[.type X, .type T, .int dep tk], []⟩) (fun _ R s => R (.ok (.ret (.bool b))) s) := fun _ _ _ _ _ h => issub_nested_type hX hT hs h

theorem issub_nested_sb {X : String} {b b2 : Bool} {tp : Addr} {n : Nat} {tk : Tok} {s : Shared} {Q : Fin → Shared → Prop} (hX : typeOf (.type X) = pure (.type "type"))
    (htp : s.heap.get? tp = some { cls := .type "tuple", data := .seq #[.type "str", .type "bytes"] n }) (h1 : isSubtype (.type X) (.type "str") = pure b) (h2 : isSubtype (.type X) (.type "bytes") = pure b2) (hb : (b || b2) = true)
    (hq : ∀ tk', Q (.done (.ret (.bool true))) { s with toks := tk' }) : wpAny (model prog w) A (Builtin.«issubclass.nested» ⟨[.type X, .ref tp, .int 0 tk], []⟩) Q E s := by
  obtain ⟨h, g, d, t, os⟩ := s
  have hT2 : (⟨h, g, d, t, os⟩ : Shared).TypeIs (.ref tp) "tuple" := ⟨_, htp, rfl⟩
  have f1 := F.isi_sub_tuple
  have g1 := fun dep tk => issub_meets (dep := dep) (tk := tk) hX ty_str h1
  have g2 := fun dep tk => issub_meets (dep := dep) (tk := tk) hX ty_bytes h2
  have c1 : ∀ (s : Shared) (Q : Value → Shared → Prop) (dep : Int), Q (.bool b) s → wpAny (model prog w) A (call (.builtin "issubclass.nested") [.type X, .type "str", rawInt dep]) Q E s := fun s Q dep hq =>
    call_function_meets kind_issub_nested plain_issub_nested F.entry_issubclass_nested (args_issub_nested_3 _ _ _) (g1 _ _) hq
  have c2 : ∀ (s : Shared) (Q : Value → Shared → Prop) (dep : Int), Q (.bool b2) s → wpAny (model prog w) A (call (.builtin "issubclass.nested") [.type X, .type "bytes", rawInt dep]) Q E s := fun s Q dep hq =>
    call_function_meets kind_issub_nested plain_issub_nested F.entry_issubclass_nested (args_issub_nested_3 _ _ _) (g2 _ _) hq
  cases b with
  | true => repeat (any_goals (first | assumption | exact hq _ | (refine c1 _ _ _ ?_) | wp_step))
  | false =>
    cases b2 with
    | false => cases hb
    | true => repeat (any_goals (first | assumption | exact hq _ | (refine c1 _ _ _ ?_) | (refine c2 _ _ _ ?_) | wp_step))
theorem issub_sb_call {X : String} {b b2 : Bool} {tp : Addr} {n : Nat} {s : Shared} {Q : Value → Shared → Prop} (hX : typeOf (.type X) = pure (.type "type"))
    (htp : s.heap.get? tp = some { cls := .type "tuple", data := .seq #[.type "str", .type "bytes"] n }) (h1 : isSubtype (.type X) (.type "str") = pure b) (h2 : isSubtype (.type X) (.type "bytes") = pure b2) (hb : (b || b2) = true)
    (hq : ∀ tk', Q (.bool true) { s with toks := tk' }) : wpAny (model prog w) A (call (.builtin "issubclass") [.type X, .ref tp]) Q E s :=
  call_issubclass (S := fun _ R s => s.heap.get? tp = some { cls := .type "tuple", data := .seq #[.type "str", .type "bytes"] n } ∧ ∀ tk', R (.ok (.ret (.bool true))) { s with toks := tk' })
    (fun _ _ _ _ _ hs => issubclass_outer (issub_nested_sb hX hs.1 h1 h2 hb hs.2)) ⟨htp, hq⟩
theorem issub_str {tp : Addr} {n : Nat} {s : Shared} {Q : Value → Shared → Prop}
    (htp : s.heap.get? tp = some { cls := .type "tuple", data := .seq #[.type "str", .type "bytes"] n }) 
    (hq : ∀ tk', Q (.bool true) { s with toks := tk' }) : wpAny (model prog w) A (call (.builtin "issubclass") [.type "str", .ref tp]) Q E s :=
  issub_sb_call (b2 := false) ty_str htp sub_str_str (by rw [isSubtype_type]; kernel_rfl) rfl hq
theorem issub_bytes {tp : Addr} {n : Nat} {s : Shared} {Q : Value → Shared → Prop}
    (htp : s.heap.get? tp = some { cls := .type "tuple", data := .seq #[.type "str", .type "bytes"] n }) 
    (hq : ∀ tk', Q (.bool true) { s with toks := tk' }) : wpAny (model prog w) A (call (.builtin "issubclass") [.type "bytes", .ref tp]) Q E s :=
  issub_sb_call ty_bytes htp sub_bytes_str sub_bytes_bytes rfl hq
end
/-- what a call of the def at f hands back: R of the new ledger and of the value -/
noncomputable def Spec (prog p : Program) (K : Params → Frag) (f : Addr) (d u : Nat) (vs : List Value) (news : List (Addr × Obj)) (R : List (Addr × Obj) → Value → Prop) : Prop :=
  ∀ (w : World) (loose : List Str) (mean : ExcName → Option Value) (mg mb : Str → Option Value) (dp un : Nat) (gd : Option (List Code)) (cn : Str) (cs : Scope) (a : Addr) (ccd : Value) (cl : List (Str × Addr)) (outer : List Env) (A₀ : Around) (base h₀ : Heap) (L : Addr) (m : Str → Option Value) (s : Shared) (Q E : Value → Shared → Prop),
    Below A₀ base outer h₀ → Fr h₀ L s.heap m → (K w.params).In h₀ → News h₀ L s.heap news → Top p loose mean mg mb h₀ → cs.kind = .function →
    dp + d < recursionLimit → un + u < cLine →
    (∀ led v h' tk', R led v → (∀ q ∈ led, ∀ p ∈ news, p.1 < q.1) → Fr h₀ L h' m → News h₀ L h' (led ++ news) → Q v { s with heap := h', toks := tk' }) →
    wpAny (model prog w) (ktrTop dp un gd cn cs L a ccd cl outer) (call (.ref f) vs) Q E s
theorem Spec.use2 {prog p : Program} {K : Params → Frag} {f : Addr} {d u : Nat} {vs : List Value} {news : List (Addr × Obj)} {R : List (Addr × Obj) → Value → Prop}
    {w : World} {loose : List Str} {mean : ExcName → Option Value} {mg mb : Str → Option Value} {dp un : Nat} {gd : Option (List Code)} {cn : Str} {cs : Scope} {a : Addr} {ccd : Value} {cl : List (Str × Addr)} {outer : List Env} {A₀ : Around} {base h₀ : Heap} {L : Addr} {m : Str → Option Value} {s : Shared} {Q E : Value → Shared → Prop}
    (B : Below A₀ base outer h₀) (F : Fr h₀ L s.heap m) (X : (K w.params).In h₀) (N : News h₀ L s.heap news) (T : Top p loose mean mg mb h₀) (hk : cs.kind = .function) (S : Spec prog p K f d u vs news R)
    (hd : dp + d < recursionLimit) (hu : un + u < cLine)
    (ret : ∀ led v h' tk', R led v → (∀ q ∈ led, ∀ p ∈ news, p.1 < q.1) → Fr h₀ L h' m → News h₀ L h' (led ++ news) → Q v { s with heap := h', toks := tk' }) :
    wpAny (model prog w) (ktrTop dp un gd cn cs L a ccd cl outer) (call (.ref f) vs) Q E s :=
  S w loose mean mg mb dp un gd cn cs a ccd cl outer A₀ base h₀ L m s Q E B F X N T hk hd hu ret
/-- the same with a word of the caller's ground -/
noncomputable def SpecP (prog p : Program) (K : Params → Frag) (f : Addr) (d u : Nat) (vs : List Value) (news : List (Addr × Obj)) (pre : Heap → Prop) (R : List (Addr × Obj) → Value → Prop) : Prop :=
  ∀ (w : World) (loose : List Str) (mean : ExcName → Option Value) (mg mb : Str → Option Value) (dp un : Nat) (gd : Option (List Code)) (cn : Str) (cs : Scope) (a : Addr) (ccd : Value) (cl : List (Str × Addr)) (outer : List Env) (A₀ : Around) (base h₀ : Heap) (L : Addr) (m : Str → Option Value) (s : Shared) (Q E : Value → Shared → Prop),
    Below A₀ base outer h₀ → Fr h₀ L s.heap m → (K w.params).In h₀ → News h₀ L s.heap news → Top p loose mean mg mb h₀ → cs.kind = .function →
    dp + d < recursionLimit → un + u < cLine → pre h₀ →
    (∀ led v h' tk', R led v → (∀ q ∈ led, ∀ p ∈ news, p.1 < q.1) → Fr h₀ L h' m → News h₀ L h' (led ++ news) → Q v { s with heap := h', toks := tk' }) →
    wpAny (model prog w) (ktrTop dp un gd cn cs L a ccd cl outer) (call (.ref f) vs) Q E s
theorem SpecP.use2 {prog p : Program} {K : Params → Frag} {f : Addr} {d u : Nat} {vs : List Value} {news : List (Addr × Obj)} {pre : Heap → Prop} {R : List (Addr × Obj) → Value → Prop}
    {w : World} {loose : List Str} {mean : ExcName → Option Value} {mg mb : Str → Option Value} {dp un : Nat} {gd : Option (List Code)} {cn : Str} {cs : Scope} {a : Addr} {ccd : Value} {cl : List (Str × Addr)} {outer : List Env} {A₀ : Around} {base h₀ : Heap} {L : Addr} {m : Str → Option Value} {s : Shared} {Q E : Value → Shared → Prop}
    (B : Below A₀ base outer h₀) (F : Fr h₀ L s.heap m) (X : (K w.params).In h₀) (N : News h₀ L s.heap news) (T : Top p loose mean mg mb h₀) (hk : cs.kind = .function) (S : SpecP prog p K f d u vs news pre R)
    (hd : dp + d < recursionLimit) (hu : un + u < cLine) (hp : pre h₀)
    (ret : ∀ led v h' tk', R led v → (∀ q ∈ led, ∀ p ∈ news, p.1 < q.1) → Fr h₀ L h' m → News h₀ L h' (led ++ news) → Q v { s with heap := h', toks := tk' }) :
    wpAny (model prog w) (ktrTop dp un gd cn cs L a ccd cl outer) (call (.ref f) vs) Q E s :=
  S w loose mean mg mb dp un gd cn cs a ccd cl outer A₀ base h₀ L m s Q E B F X N T hk hd hu hp ret
theorem list_up {h₀ h : Heap} {l : Addr} {vs : List Value} (hl : h₀.IsList l vs.toArray) (k : ∀ b o, h₀.get? b = some o → h.get? b = some o) : h.IsList l vs.toArray := hl.at fun o e => k _ o e
abbrev tupO (vs : List Value) : Obj := { cls := .type "tuple", data := .seq vs.toArray }
theorem no_led {news : List (Addr × Obj)} : ∀ q ∈ ([] : List (Addr × Obj)), ∀ p ∈ news, p.1 < q.1 := fun _ h => nomatch h
theorem allLt_mem {d : Addr} : ∀ {l : List (Addr × Obj)}, AllLt d l → ∀ p ∈ l, p.1 < d
  | [], _, _, hp => absurd hp (List.not_mem_nil)
  | q :: l, h, p, hp => (List.mem_cons.mp hp).elim (fun e => by rw [e]; exact h.1) (fun hp => allLt_mem h.2 p hp)
theorem hret_one {news newsN : List (Addr × Obj)} {h₀ h' : Heap} {L : Addr} {m : Str → Option Value} {s : Shared} {Q : Value → Shared → Prop} {R : List (Addr × Obj) → Value → Prop} {q : Addr} {o : Obj} {tk' : Nat}
    (hret : ∀ led v h' tk', R led v → (∀ q ∈ led, ∀ p ∈ news, p.1 < q.1) → Fr h₀ L h' m → News h₀ L h' (led ++ news) → Q v { s with heap := h', toks := tk' })
    (F : Fr h₀ L h' m) (N : News h₀ L h' ((q, o) :: newsN)) (hR : R [(q, o)] (.ref q)) (hf : ∀ p ∈ news, p.1 < q) (hs : ∀ p ∈ news, p ∈ newsN) : Q (.ref q) { s with heap := h', toks := tk' } :=
  hret _ _ _ _ hR (fun q' hq p hp => by rw [List.mem_singleton.mp hq]; exact hf p hp) F (cb_drop N fun p hp => List.mem_cons.mpr ((List.mem_cons.mp hp).imp id (hs p)))
end Mine
namespace Mine
/-! plain lists of signs' numbers, and the texts and bytes that they are -/
noncomputable def mkS (l : List Nat) : Str := ⟨l.toArray⟩
noncomputable def mkB (l : List Nat) : Array UInt8 := (l.map Nat.toUInt8).toArray
noncomputable def Small (l : List Nat) : Prop := ∀ c ∈ l, c < 256
noncomputable def pySl (l : List Nat) (lo hi : Option Int) : List Nat := (l.drop (lo.elim 0 (clipAt l.length))).take (hi.elim l.length (clipAt l.length) - lo.elim 0 (clipAt l.length))
noncomputable def tailL (c : Nat) (l : List Nat) : List Nat := (l.reverse.takeWhile (fun x => x != c)).reverse
/-- behind the last c -/
noncomputable def cutL (c : Nat) (l : List Nat) : Nat := l.length - (tailL c l).length
noncomputable def rstL (c : Nat) (l : List Nat) : List Nat := (l.reverse.dropWhile (fun x => x == c)).reverse

theorem mkS_length (l : List Nat) : (mkS l).length = l.length := by simp [mkS, Str.length]
theorem mkS_cps (l : List Nat) : (mkS l).cps.toList = l := by simp [mkS]
theorem mkB_size (l : List Nat) : (mkB l).size = l.length := by simp [mkB]
theorem toUInt8_inj {a b : Nat} (ha : a < 256) (hb : b < 256) (h : a.toUInt8 = b.toUInt8) : a = b := by
  have h1 : a.toUInt8.toNat = b.toUInt8.toNat := by rw [h]
  simp at h1
  omega
theorem map_u8_inj : ∀ {a b : List Nat}, Small a → Small b → a.map Nat.toUInt8 = b.map Nat.toUInt8 → a = b
  | [], [], _, _, _ => rfl
  | [], _ :: _, _, _, h => by cases h
  | _ :: _, [], _, _, h => by cases h
  | x :: a, y :: b, ha, hb, h => by
    simp only [List.map_cons, List.cons.injEq] at h
    rw [toUInt8_inj (ha x (.head _)) (hb y (.head _)) h.1, map_u8_inj (fun c hc => ha c (.tail _ hc)) (fun c hc => hb c (.tail _ hc)) h.2]
theorem mkB_inj {a b : List Nat} (ha : Small a) (hb : Small b) (h : mkB a = mkB b) : a = b := map_u8_inj ha hb (by simpa [mkB] using h)
theorem mkS_inj {a b : List Nat} (h : mkS a = mkS b) : a = b := by simpa [mkS] using h
theorem Small.nil : Small [] := fun _ h => nomatch h
theorem Small.append {a b : List Nat} (ha : Small a) (hb : Small b) : Small (a ++ b) := fun c hc => (List.mem_append.mp hc).elim (ha c) (hb c)
theorem Small.sub {a b : List Nat} (ha : Small a) (h : ∀ c ∈ b, c ∈ a) : Small b := fun c hc => ha c (h c hc)
theorem pySl_mem {l : List Nat} {lo hi : Option Int} {c : Nat} (h : c ∈ pySl l lo hi) : c ∈ l := List.mem_of_mem_drop (List.mem_of_mem_take h)
theorem Small.sl {a : List Nat} (ha : Small a) (lo hi : Option Int) : Small (pySl a lo hi) := ha.sub fun _ => pySl_mem
theorem rstL_mem {l : List Nat} {k c : Nat} (h : c ∈ rstL k l) : c ∈ l := by
  unfold rstL at h
  rw [List.mem_reverse] at h
  exact List.mem_reverse.mp (List.dropWhile_sublist _ |>.mem h)
theorem pySl_length (l : List Nat) (lo hi : Option Int) : (pySl l lo hi).length ≤ l.length := by
  unfold pySl; rw [List.length_take, List.length_drop]; omega
theorem rstL_length (k : Nat) (l : List Nat) : (rstL k l).length ≤ l.length := by
  unfold rstL
  rw [List.length_reverse]
  exact Nat.le_trans (List.dropWhile_sublist _).length_le (by simp)

theorem clip_nat (n k : Nat) : clipAt n (k : Int) = min k n := clipAt_nat n k
theorem pySl_to (l : List Nat) (k : Nat) : pySl l none (some (k : Int)) = l.take k := by
  unfold pySl
  simp only [Option.elim, clip_nat, List.drop_zero, Nat.sub_zero]
  rw [List.take_eq_take_iff]; omega
theorem pySl_from (l : List Nat) (k : Nat) : pySl l (some (k : Int)) none = l.drop k := by
  unfold pySl
  simp only [Option.elim, clip_nat]
  rw [List.take_of_length_le (by rw [List.length_drop]; omega)]
  by_cases h : k ≤ l.length
  · rw [Nat.min_eq_left h]
  · rw [List.drop_of_length_le (by omega), List.drop_of_length_le (by omega)]
theorem pySl_ft (l : List Nat) (a b : Nat) : pySl l (some (a : Int)) (some (b : Int)) = (l.drop a).take (b - a) := by
  unfold pySl
  simp only [Option.elim, clip_nat]
  by_cases h : a ≤ l.length
  · rw [Nat.min_eq_left h, List.take_eq_take_iff, List.length_drop]; omega
  · rw [List.drop_of_length_le (show l.length ≤ min a l.length by omega), List.drop_of_length_le (show l.length ≤ a by omega)]; simp

theorem sliceIdx_eq (lo hi : Option Int) (n : Nat) : Builtin.Str.strSliceIndices lo hi 1 n = sliceRange ((lo.elim 0 (clipAt n) : Nat) : Int) ((hi.elim n (clipAt n) : Nat) : Int) 1 := by
  unfold Builtin.Str.strSliceIndices
  cases lo <;> cases hi <;> simp [clipAt_cast]
theorem clipAt_le (n : Nat) (i : Int) : clipAt n i ≤ n := by
  have h := clipAt_cast n i
  omega
theorem slice_mkS (l : List Nat) (lo hi : Option Int) : Txt.slice (mkS l) lo hi = mkS (pySl l lo hi) := by
  have hb : hi.elim l.length (clipAt l.length) ≤ l.length := by cases hi with
    | none => exact Nat.le_refl _
    | some i => exact clipAt_le _ _
  unfold Txt.slice
  rw [sliceIdx_eq, sliceRange_one, mkS_length]
  split
  · rename_i h
    simp at h
    have e : pySl l lo hi = l := by
      unfold pySl
      generalize hA : lo.elim 0 (clipAt l.length) = a at *
      generalize hB : hi.elim l.length (clipAt l.length) = b at *
      have h2 : (b : Nat) - a = l.length := h
      rw [h2]
      rcases Nat.eq_zero_or_pos l.length with h0 | h0
      · rw [List.length_eq_zero_iff.mp h0]; simp
      · have ha : a = 0 := by omega
        rw [ha]; simp
    rw [e]
  · rw [pick_run, mkS_cps]; rfl
theorem picked_mkB (l : List Nat) (lo hi : Option Int) : KBy.picked (mkB l) lo hi = mkB (pySl l lo hi) := by
  rw [KBc.picked_eq]
  unfold mkB pySl
  simp [List.map_take, List.map_drop]

/-! the last place of a sign -/
theorem cutL_nil (c : Nat) : cutL c [] = 0 := rfl
theorem cutL_snoc (c : Nat) (l : List Nat) (x : Nat) : cutL c (l ++ [x]) = if x = c then l.length + 1 else cutL c l := by
  unfold cutL tailL
  rw [List.reverse_append, List.reverse_cons, List.reverse_nil, List.nil_append, List.singleton_append, List.takeWhile_cons]
  by_cases h : x = c
  · simp [h]
  · simp [h]
theorem cutL_le (c : Nat) (l : List Nat) : cutL c l ≤ l.length := Nat.sub_le _ _
theorem snocRec {P : List Nat → Prop} (h0 : P []) (h1 : ∀ l x, P l → P (l ++ [x])) (l : List Nat) : P l := by
  have h : ∀ r : List Nat, P r.reverse := by
    intro r
    induction r with
    | nil => exact h0
    | cons x r ih => rw [List.reverse_cons]; exact h1 _ _ ih
  have := h l.reverse
  rwa [List.reverse_reverse] at this
theorem cutL_pos (c : Nat) (l : List Nat) : 0 < cutL c l → l[cutL c l - 1]? = some c := by
  induction l using snocRec with
  | h0 => intro h; exact absurd h (by simp [cutL_nil])
  | h1 l x ih =>
    rw [cutL_snoc]
    split
    · rename_i h; intro _; simp [h]
    · intro h
      have := ih h
      rw [List.getElem?_append_left (by have := cutL_le c l; omega)]
      exact this
theorem cutL_behind (c : Nat) (l : List Nat) : ∀ i, cutL c l ≤ i → l[i]? ≠ some c := by
  induction l using snocRec with
  | h0 => intro i _; simp
  | h1 l x ih =>
    rw [cutL_snoc]
    intro i hi
    split at hi
    · rw [List.getElem?_eq_none (by simp; omega)]; simp
    · rename_i h
      rcases Nat.lt_or_ge i l.length with h1 | h1
      · rw [List.getElem?_append_left h1]; exact ih i hi
      · rcases Nat.eq_or_lt_of_le h1 with h2 | h2
        · subst h2; simp [h]
        · rw [List.getElem?_eq_none (by simp; omega)]; simp
theorem cutL_unique {c : Nat} {l : List Nat} {k : Nat} (h1 : 0 < k → l[k - 1]? = some c) (h2 : ∀ i, k ≤ i → l[i]? ≠ some c) : k = cutL c l := by
  rcases Nat.lt_trichotomy k (cutL c l) with h | h | h
  · exact absurd (cutL_pos c l (by omega)) (h2 _ (by omega))
  · exact h
  · exact absurd (h1 (by omega)) (cutL_behind c l _ (by omega))
theorem subAt_one (l : List Nat) (c i : Nat) : Builtin.Str.subAt (mkS l) (mkS [c]) i = true ↔ l[i]? = some c := by
  rw [StrLaws.subAt_eq, mkS_cps, mkS_cps, mkS_length, beq_iff_eq]
  show List.take 1 (l.drop i) = [c] ↔ _
  rw [List.take_one, List.head?_drop]
  cases l[i]? <;> simp
theorem at_one (l : List Nat) (c i : Nat) : StrLaws.At (mkS l) (mkS [c]) (mkS l).length i ↔ l[i]? = some c := by
  unfold StrLaws.At
  rw [subAt_one, mkS_length, mkS_length]
  constructor
  · exact fun h => h.2
  · intro h
    obtain ⟨hl, _⟩ := List.getElem?_eq_some_iff.mp h
    exact ⟨hl, h⟩
theorem rfind_mkS (l : List Nat) (c : Nat) : Txt.rfind (mkS l) (mkS [c]) = (cutL c l : Int) - 1 := by
  rcases rfind_whole (mkS l) (mkS [c]) with ⟨h1, h2⟩ | ⟨i, h1, h2, h3⟩
  · rw [h1]
    have : 0 = cutL c l := cutL_unique (fun h => absurd h (Nat.lt_irrefl _)) fun i _ => fun e => h2 i ((at_one l c i).mpr e)
    omega
  · rw [h1]
    have : i + 1 = cutL c l := cutL_unique (fun _ => (at_one l c i).mp h2) fun k hk => fun e => h3 k (by omega) ((at_one l c k).mpr e)
    omega

theorem dropWhile_drop (p : Nat → Bool) : ∀ l : List Nat, l.dropWhile p = l.drop (l.takeWhile p).length
  | [] => rfl
  | x :: l => by
    rw [List.dropWhile_cons, List.takeWhile_cons]
    split
    · rw [List.length_cons, List.drop_succ_cons]; exact dropWhile_drop p l
    · rfl
theorem goes_one (c : Nat) : (mkS [c]).cps.contains = fun x => x == c := by
  funext x
  simp only [mkS, List.contains_toArray]
  simp
  rfl
theorem rstL_take (c : Nat) (l : List Nat) : rstL c l = l.take (l.length - (l.reverse.takeWhile (fun x => x == c)).length) := by
  unfold rstL
  rw [dropWhile_drop, List.reverse_drop, List.reverse_reverse, List.length_reverse]
theorem rstrip_mkS (l : List Nat) (c : Nat) : Txt.rstripChars (mkS l) (mkS [c]) = mkS (rstL c l) := by
  unfold Txt.rstripChars Txt.stripBy stripSame PySem.stripped stripLo stripHi
  rw [goes_one, rstL_take]
  simp only [if_true, Bool.false_eq_true, if_false, List.drop_zero, mkS_cps, mkS_length, beq_self_eq_true, Bool.true_and, beq_iff_eq]
  split
  · rename_i h
    rw [h, List.take_length]
  · unfold Builtin.Str.strSub mkS
    simp
/-! bytes -/
theorem u8_eq {a c : Nat} (ha : a < 256) (hc : c < 256) : (a.toUInt8 == c.toUInt8) = (a == c) := by
  by_cases h : a = c
  · simp [h]
  · have : a.toUInt8 ≠ c.toUInt8 := fun e => h (toUInt8_inj ha hc e)
    rw [beq_eq_false_iff_ne.mpr this, beq_eq_false_iff_ne.mpr h]
theorem mkB_extract (l : List Nat) (i j : Nat) : (mkB l).extract i j = mkB ((l.drop i).take (j - i)) := by
  unfold mkB
  rw [List.extract_toArray, List.extract_eq_take_drop, List.map_take, List.map_drop]
theorem mkB_beq {a b : List Nat} (ha : Small a) (hb : Small b) : (mkB a == mkB b) = (a == b) := by
  by_cases h : a = b
  · subst h; simp
  · rw [beq_eq_false_iff_ne.mpr h, beq_eq_false_iff_ne.mpr fun e => h (mkB_inj ha hb e)]
theorem Small.one {c : Nat} (h : c < 256) : Small [c] := fun x hx => by rw [List.mem_singleton.mp hx]; exact h
theorem rfindB_go (l : List Nat) (c : Nat) (hs : Small l) (hc : c < 256) : ∀ n, n ≤ l.length →
    ((List.range n).map (· + 0)).reverse.find? (fun i => (mkB l).extract i (i + (mkB [c]).size) == mkB [c]) = if cutL c (l.take n) = 0 then none else some (cutL c (l.take n) - 1)
  | 0, _ => by simp [cutL_nil]
  | n + 1, h => by
    have ih := rfindB_go l c hs hc n (by omega)
    have hn : n < l.length := by omega
    have e1 : l.take (n + 1) = l.take n ++ [l[n]] := by simp
    have e2 : ((mkB l).extract n (n + (mkB [c]).size) == mkB [c]) = (l[n] == c) := by
      rw [mkB_extract, mkB_size, mkB_beq (hs.sub fun x hx => List.mem_of_mem_drop (List.mem_of_mem_take hx)) (Small.one hc)]
      rw [List.length_singleton, Nat.add_sub_cancel_left, List.take_one, List.head?_drop, List.getElem?_eq_getElem hn]
      simp
    rw [List.range_succ, List.map_append, List.reverse_append, List.map_cons, List.map_nil, List.reverse_cons, List.reverse_nil, List.nil_append, List.singleton_append, List.find?_cons, e1, cutL_snoc]
    simp only [Nat.add_zero] at ih ⊢
    rw [e2]
    by_cases hx : l[n] = c
    · simp [hx]; omega
    · rw [beq_eq_false_iff_ne.mpr hx, if_neg hx]
      rw [List.map_id'] at ih ⊢
      exact ih
theorem rfindB (l : List Nat) (c : Nat) (hs : Small l) (hc : c < 256) : Builtin.Bytes.rfind? (mkB l) (mkB [c]) 0 (mkB l).size = if cutL c l = 0 then none else some (cutL c l - 1) := by
  have h := rfindB_go l c hs hc l.length (Nat.le_refl _)
  rw [List.take_length] at h
  unfold Builtin.Bytes.rfind?
  have : (mkB l).size + 1 - (0 + (mkB [c]).size) = l.length := by rw [mkB_size, mkB_size]; simp
  rw [this]
  exact h
end Mine
namespace Mine
theorem lit_slash : Str.ofString "/" = mkS [47] := by decide +kernel
theorem lit_dot : Str.ofString "." = mkS [46] := by decide +kernel
theorem lit_nil : Str.ofString "" = mkS [] := by decide +kernel
theorem lit_slashB : ([47] : List UInt8).toArray = mkB [47] := rfl
theorem lit_dotB : ([46] : List UInt8).toArray = mkB [46] := rfl
theorem Small.rep {c : Nat} (h : c < 256) (k : Nat) : Small (List.replicate k c) := fun x hx => by rw [List.eq_of_mem_replicate hx]; exact h
theorem mul_mkS (c k : Nat) : Txt.mul (mkS [c]) (k : Int) = mkS (List.replicate k c) := by
  have fold : ∀ (k : Nat) (acc : List Nat), (List.replicate k (mkS [c]).cps).foldl (· ++ ·) acc.toArray = (acc ++ List.replicate k c).toArray := by
    intro k
    induction k with
    | zero => intro acc; simp
    | succ k ih =>
      intro acc
      rw [List.replicate_succ, List.foldl_cons]
      have e : acc.toArray ++ (mkS [c]).cps = (acc ++ [c]).toArray := by simp [mkS]
      rw [e, ih, List.replicate_succ, List.append_assoc]; rfl
  unfold Txt.mul
  by_cases h0 : (k : Int) < 1
  · have : k = 0 := by omega
    subst this
    rw [if_pos h0]; rfl
  · rw [if_neg h0]
    by_cases h1 : k = 1
    · subst h1; simp
    · have : (((k : Int) == 1) || (mkS [c]).length == 0) = false := by
        have a : ((k : Int) == 1) = false := beq_eq_false_iff_ne.mpr (by omega)
        rw [a, mkS_length]; rfl
      rw [this]
      have h := fold k []
      rw [List.nil_append] at h
      simp only [Bool.false_eq_true, if_false, Int.toNat_natCast]
      rw [h]; rfl
theorem repeated_one (c k : Nat) : (List.replicate k [c.toUInt8]).flatten.toArray = mkB (List.replicate k c) := by
  unfold mkB
  congr 1
  induction k with
  | zero => rfl
  | succ k ih => rw [List.replicate_succ, List.flatten_cons, ih, List.replicate_succ, List.map_cons]; rfl
theorem len_ne_zero (l : List Nat) : ((l.length : Int) != 0) = decide (l ≠ []) := by
  cases l with
  | nil => rfl
  | cons x l => simp; omega
theorem bne_dec (a b : List Nat) : (a != b) = decide (a ≠ b) := by
  by_cases h : a = b
  · simp [h]
  · simp [h]
section
variable {prog : Program} {w : World} {A : Around} {E : Value → Shared → Prop} {s : Shared} {l m : List Nat} {t u : Tok}
/-! texts -/
theorem rfind_S {c : Nat} {y : Str} {Q : Value → Shared → Prop} (hy : y = mkS [c]) (hq : Q (.int ((cutL c l : Int) - 1) s.toks) { s with toks := s.toks + 1 }) : wpAny (model prog w) A (call (.builtin "str.rfind") [.str (mkS l) t, .str y u]) Q E s :=
  SC.rfind (by rw [hy, rfind_mkS]; exact hq)
theorem rstrip_S {c : Nat} {y : Str} {Q : Value → Shared → Prop} (hy : y = mkS [c]) (hz : l.length ≤ 4096) (hq : ∀ t' k, (rstL c l).length ≤ l.length → Q (.str (mkS (rstL c l)) t') { s with toks := k }) : wpAny (model prog w) A (call (.builtin "str.rstrip") [.str (mkS l) t, .str y u]) Q E s :=
  SC.rstripChars (fun t' k => by rw [hy, rstrip_mkS]; exact hq t' k (rstL_length c l)) (by rw [mkS_length, sizeLine_eq]; omega)
theorem len_S {Q : Value → Shared → Prop} (hz : l.length ≤ 4096) (h : Q (.int l.length (s.toks + 1)) { s with toks := s.toks + 1 + 1 }) : wpAny (model prog w) A (call (.builtin "len") [.str (mkS l) t]) Q E s :=
  P.len_str (by rw [mkS_length]; omega) (by rw [mkS_length]; exact h)
theorem truthy_S {Q : Bool → Shared → Prop} (hz : l.length ≤ 4096) (h : Q (decide (l ≠ [])) { s with toks := s.toks + 1 + 1 }) : wpAny (model prog w) A (truthy (.str (mkS l) t)) Q E s :=
  P.truthy_str (by rw [mkS_length]; omega) (by rw [mkS_length, len_ne_zero]; exact h)
theorem ne_S {x y : Str} {Q : Value → Shared → Prop} (hx : x = mkS l) (hy : y = mkS m) (h : Q (.bool (decide (l ≠ m))) s) : wpAny (model prog w) A (compareOp .NotEq (.str x t) (.str y u)) Q E s :=
  P.ne_str (by rw [hx, hy, mkS_cps, mkS_cps, bne_dec]; exact h)
theorem mul_S {c k : Nat} {y : Str} {Q : Value → Shared → Prop} (hy : y = mkS [c]) (hz : k ≤ 4096) (h : ∀ t' k', Q (.str (mkS (List.replicate k c)) t') { s with toks := k' }) : wpAny (model prog w) A (binaryOp .Mult (.str y t) (.int (k : Int) u)) Q E s :=
  SB.mul (mulOk_of 16 1048576 (by rw [hy, mkS_length]; exact (by decide : 1 ≤ 16)) (by omega) (by omega) (by decide) (by decide)) (fun t' k' => by rw [hy, mul_mkS]; exact h t' k')
section
variable {value slice : PySem.Expr} {h₀ : Heap} {L : Addr} {fm : PySem.Str → Option Value} {news : List (Addr × Obj)} {Q : Value → Shared → Prop} {lo hi : Option Int} {vl vu : Value}
theorem slice_S (hF : Fr h₀ L s.heap fm) (hN : News h₀ L s.heap news) (hl : IsPart vl lo) (hu : IsPart vu hi) (hz : l.length ≤ 4096)
    (h : ∀ h' t' k, Fr h₀ L h' fm → News h₀ L h' news → (pySl l lo hi).length ≤ l.length → Q (.str (mkS (pySl l lo hi)) t') { s with heap := h', toks := k })
    (hs : subscripted slice false (.str (mkS l) t) (.ref s.heap.objs.size) = operate [.ref s.heap.objs.size, .str (mkS l) t] (getItem (.str (mkS l) t) (.ref s.heap.objs.size)) := by with_unfolding_all rfl)
    (ht : ∀ r, letTemporaryGo value (.str (mkS l) t) r = pure () := by intro _; with_unfolding_all rfl) :
    wpAny (model prog w) A (subscriptTail value slice (.str (mkS l) t) (.ref s.heap.objs.size)) Q E { s with heap := s.heap.push { cls := .type "slice", data := .fields #[vl, vu, .none] } } := by
  have hsz : (mkS l).length ≤ sizeLine := by rw [mkS_length, sizeLine_eq]; omega
  cases hl <;> cases hu
  · exact slice_strN_nn hF hN (fun h' t' k a b => by rw [slice_mkS]; exact h h' t' k a b (pySl_length _ _ _)) hs ht hsz
  · exact slice_strN_ns hF hN (fun h' t' k a b => by rw [slice_mkS]; exact h h' t' k a b (pySl_length _ _ _)) hs ht hsz
  · exact slice_strN_sn hF hN (fun h' t' k a b => by rw [slice_mkS]; exact h h' t' k a b (pySl_length _ _ _)) hs ht hsz
  · exact slice_strN_ss hF hN (fun h' t' k a b => by rw [slice_mkS]; exact h h' t' k a b (pySl_length _ _ _)) hs ht hsz
theorem slice_B (hF : Fr h₀ L s.heap fm) (hN : News h₀ L s.heap news) (hl : IsPart vl lo) (hu : IsPart vu hi) (hz : l.length ≤ 4096)
    (h : ∀ h' t' k, Fr h₀ L h' fm → News h₀ L h' news → (pySl l lo hi).length ≤ l.length → Q (.bytes (mkB (pySl l lo hi)) t') { s with heap := h', toks := k })
    (hs : subscripted slice false (.bytes (mkB l) t) (.ref s.heap.objs.size) = operate [.ref s.heap.objs.size, .bytes (mkB l) t] (getItem (.bytes (mkB l) t) (.ref s.heap.objs.size)) := by with_unfolding_all rfl)
    (ht : ∀ r, letTemporaryGo value (.bytes (mkB l) t) r = pure () := by intro _; with_unfolding_all rfl) :
    wpAny (model prog w) A (subscriptTail value slice (.bytes (mkB l) t) (.ref s.heap.objs.size)) Q E { s with heap := s.heap.push { cls := .type "slice", data := .fields #[vl, vu, .none] } } :=
  KBc.slice_K hF hN rfl hl hu (by rw [KBw.ints_length, mkB_size]; omega) (fun h' t' k a b _ => by rw [picked_mkB]; exact h h' t' k a b (pySl_length _ _ _)) hs ht
end
/-! bytes -/
theorem len_B {Q : Value → Shared → Prop} (hz : l.length ≤ 4096) (h : Q (.int l.length (s.toks + 1)) { s with toks := s.toks + 1 + 1 }) : wpAny (model prog w) A (call (.builtin "len") [.bytes (mkB l) t]) Q E s :=
  len_bytes (by rw [mkB_size]; omega) (by rw [mkB_size]; exact h)
theorem truthy_B {Q : Bool → Shared → Prop} (hz : l.length ≤ 4096) (h : Q (decide (l ≠ [])) { s with toks := s.toks + 1 + 1 }) : wpAny (model prog w) A (truthy (.bytes (mkB l) t)) Q E s :=
  truthy_bytes (by rw [mkB_size]; omega) (by rw [mkB_size, len_ne_zero]; exact h)
theorem mkB_list_beq {a b : List Nat} (ha : Small a) (hb : Small b) : ((mkB a).toList == (mkB b).toList) = decide (a = b) := by
  by_cases h : a = b
  · subst h; simp
  · have : (mkB a).toList ≠ (mkB b).toList := fun e => h (mkB_inj ha hb (by rw [← Array.toArray_toList (xs := mkB a), e, Array.toArray_toList]))
    rw [beq_eq_false_iff_ne.mpr this]; simp [h]
theorem eq_B {x y : Array UInt8} {Q : Value → Shared → Prop} (hx : x = mkB l) (hy : y = mkB m) (h1 : Small l) (h2 : Small m) (h : Q (.bool (decide (l = m))) s) : wpAny (model prog w) A (compareOp .Eq (.bytes x t) (.bytes y u)) Q E s :=
  eq_bytes (by rw [hx, hy, mkB_list_beq h1 h2]; exact h)
theorem ne_B {x y : Array UInt8} {Q : Value → Shared → Prop} (hx : x = mkB l) (hy : y = mkB m) (h1 : Small l) (h2 : Small m) (h : Q (.bool (decide (l ≠ m))) s) : wpAny (model prog w) A (compareOp .NotEq (.bytes x t) (.bytes y u)) Q E s :=
  ne_bytes (by rw [hx, hy, bne, mkB_list_beq h1 h2, ← decide_not]; exact h)
theorem mul_B {c k : Nat} {y : Array UInt8} {Q : Value → Shared → Prop} (hy : y = mkB [c]) (hz : k ≤ 4096) (h : ∀ t' k', Q (.bytes (mkB (List.replicate k c)) t') { s with toks := k' }) : wpAny (model prog w) A (binaryOp .Mult (.bytes y t) (.int (k : Int) u)) Q E s := by
  subst hy
  exact bytes_mul_any (b := [c.toUInt8]) (by simp) (by omega) (by omega) (by simp) (fun t' k' => by rw [Int.toNat_natCast, repeated_one]; exact h t' k')
end

/-! what the functions of the program give, as plain lists -/
noncomputable def headL (l : List Nat) : List Nat := if l.take (cutL 47 l) ≠ [] ∧ l.take (cutL 47 l) ≠ List.replicate (l.take (cutL 47 l)).length 47 then rstL 47 (l.take (cutL 47 l)) else l.take (cutL 47 l)
noncomputable def tlL (l : List Nat) : List Nat := l.drop (cutL 47 l)
theorem pySl_cut (c : Nat) (l : List Nat) : pySl l none (some ((cutL c l : Int) - 1 + 1)) = l.take (cutL c l) := by
  rw [Int.sub_add_cancel, pySl_to]
theorem pySl_cut2 (c : Nat) (l : List Nat) : pySl l (some ((cutL c l : Int) - 1 + 1)) none = l.drop (cutL c l) := by
  rw [Int.sub_add_cancel, pySl_from]
theorem head_a {l h : List Nat} (e : h = l.take (cutL 47 l)) (h1 : h = []) : h = headL l := by
  unfold headL; subst e; rw [if_neg]; intro x; exact x.1 h1
theorem head_b {l h : List Nat} (e : h = l.take (cutL 47 l)) (h1 : h = List.replicate h.length 47) : h = headL l := by
  unfold headL; subst e; rw [if_neg]; intro x; exact x.2 h1
theorem head_c {l h : List Nat} (e : h = l.take (cutL 47 l)) (h1 : h ≠ []) (h2 : h ≠ List.replicate h.length 47) : rstL 47 h = headL l := by
  unfold headL; subst e; rw [if_pos ⟨h1, h2⟩]
theorem tlL_snoc (l : List Nat) (x : Nat) : tlL (l ++ [x]) = if x = 47 then [] else tlL l ++ [x] := by
  unfold tlL
  rw [cutL_snoc]
  split
  · simp
  · rw [List.drop_append_of_le_length (cutL_le 47 l)]
theorem headL_mem {l : List Nat} {c : Nat} (h : c ∈ headL l) : c ∈ l := by
  unfold headL at h
  split at h
  · exact List.mem_of_mem_take (rstL_mem h)
  · exact List.mem_of_mem_take h
theorem tlL_length (l : List Nat) : (tlL l).length ≤ l.length := by unfold tlL; rw [List.length_drop]; omega
theorem Small.head {l : List Nat} (h : Small l) : Small (headL l) := h.sub fun _ => headL_mem
theorem Small.tl {l : List Nat} (h : Small l) : Small (tlL l) := h.sub fun _ hc => List.mem_of_mem_drop hc
/-- where the ending begins -/
noncomputable def extK (l : List Nat) : Nat := if ((l.take (cutL 46 l - 1)).drop (cutL 47 l)).any (fun c => c != 46) then cutL 46 l - 1 else l.length

theorem sl_one (l : List Nat) (k : Nat) : pySl l (some (k : Int)) (some ((k : Int) + 1)) = (l.drop k).take 1 := by
  rw [show ((k : Int) + 1) = ((k + 1 : Nat) : Int) from by omega, pySl_ft, Nat.add_sub_cancel_left]
theorem sl_zero (l : List Nat) : pySl l none (some 0) = [] := pySl_to l 0
theorem drop_one_eq {l : List Nat} {k c : Nat} : (l.drop k).take 1 = [c] ↔ l[k]? = some c := by
  rw [List.take_one, List.head?_drop]
  cases l[k]? <;> simp
theorem any_step {l : List Nat} {a k c : Nat} (ha : a ≤ k) (h3 : ((l.take k).drop a).any (fun x => x != c) = false) (h : (l.drop k).take 1 = [c]) : ((l.take (k + 1)).drop a).any (fun x => x != c) = false := by
  have hk := drop_one_eq.mp h
  obtain ⟨hl, he⟩ := List.getElem?_eq_some_iff.mp hk
  have e1 : l.take (k + 1) = l.take k ++ [c] := by rw [List.take_add_one, hk]; rfl
  rw [e1, List.drop_append_of_le_length (by rw [List.length_take]; omega), List.any_append, h3]
  simp
theorem any_hit {l : List Nat} {a k d c : Nat} (ha : a ≤ k) (hd : k < d) (hl : k < l.length) (h : (l.drop k).take 1 ≠ [c]) : ((l.take d).drop a).any (fun x => x != c) = true := by
  rw [List.any_eq_true]
  refine ⟨l[k], ?_, ?_⟩
  · have : ((l.take d).drop a)[k - a]? = some l[k] := by
      rw [List.getElem?_drop, List.getElem?_take, show a + (k - a) = k from by omega, if_pos hd, List.getElem?_eq_getElem hl]
    exact List.mem_of_getElem? this
  · have : l[k] ≠ c := fun e => h (drop_one_eq.mpr (by rw [List.getElem?_eq_getElem hl, e]))
    simp [this]
theorem ext_yes {l : List Nat} {k : Nat} (hk1 : cutL 47 l ≤ k) (hk2 : k + 1 ≤ cutL 46 l) (hk : (k : Int) < (cutL 46 l : Int) - 1) (h : pySl l (some (k : Int)) (some ((k : Int) + 1)) ≠ [46]) : extK l = cutL 46 l - 1 ∧ ((cutL 46 l : Int) - 1) = ((extK l : Nat) : Int) := by
  have := cutL_le 46 l
  have e : extK l = cutL 46 l - 1 := by
    unfold extK
    rw [any_hit hk1 (by omega) (by omega) (by rwa [sl_one] at h)]
    rfl
  exact ⟨e, by rw [e]; omega⟩
theorem ext_no {l : List Nat} (h : ((l.take (cutL 46 l - 1)).drop (cutL 47 l)).any (fun c => c != 46) = false) : extK l = l.length := by
  unfold extK; rw [h]; rfl
theorem ext_no2 {l : List Nat} (h : ¬ ((cutL 47 l : Int) - 1 < (cutL 46 l : Int) - 1)) : extK l = l.length := by
  refine ext_no ?_
  rw [List.drop_of_length_le (by rw [List.length_take]; omega)]; rfl
theorem ext_all {l : List Nat} (h : extK l = l.length) : l = l.take (extK l) ∧ pySl l none (some 0) = l.drop (extK l) := by
  rw [h, sl_zero]; simp

/-! methods of bytes -/
theorem slot_rfind : Slot "bytes" "rfind" "bytes.rfind" :=
  .of (owner := "bytes") (n := "rfind") (by rw [typeLookup_type, builtinLookup_eq_fast]; kernel_rfl) (by decide +kernel) (by decide +kernel) (by decide +kernel)
    (by first | exact .inl (by decide +kernel) | exact .inr (by decide +kernel)) (by rw [isSubtype_type]; kernel_rfl)
theorem type_rfind : typeOf (.builtin "bytes.rfind") = pure (.type "method_descriptor") := by show builtinType _ = _; rw [builtinType_eq_fast]; kernel_rfl
theorem entry_rfind : entryFor table "bytes.rfind" = some Builtin.«bytes.rfind» := entryFor_of_tree (by kernel_rfl)
theorem args_rfind (a b : Value) : argsOk "bytes.rfind" ⟨[a, b], []⟩ := by
  unfold argsOk; rw [signature?_of (id := "bytes.rfind") (n := ['d', 'n', 'i', 'f', 'r']) (o := ['s', 'e', 't', 'y', 'b']) (by kernel_rfl) FB.owner_bytes]; kernel_rfl
theorem meth_rfind {M : Model} {A : Around} {E : Value → Shared → Prop} {s : Shared} {b : Array UInt8} {t : Tok} {pl : Sem Bool} {Q : Value × List Value → Shared → Prop} (h : Q (.builtin "bytes.rfind", [.bytes b t]) s) : wpAny M A (getMethod (.bytes b t) "rfind" pl) Q E s := by
  with_reducible exact KBd.method_of (.bytes b t) (typeIs_bytes _ _ _) slot_rfind type_rfind KBd.noRef h
theorem slot_rstrip : Slot "bytes" "rstrip" "bytes.rstrip" :=
  .of (owner := "bytes") (n := "rstrip") (by rw [typeLookup_type, builtinLookup_eq_fast]; kernel_rfl) (by decide +kernel) (by decide +kernel) (by decide +kernel)
    (by first | exact .inl (by decide +kernel) | exact .inr (by decide +kernel)) (by rw [isSubtype_type]; kernel_rfl)
theorem type_rstrip : typeOf (.builtin "bytes.rstrip") = pure (.type "method_descriptor") := by show builtinType _ = _; rw [builtinType_eq_fast]; kernel_rfl
theorem entry_rstrip : entryFor table "bytes.rstrip" = some Builtin.«bytes.rstrip» := entryFor_of_tree (by kernel_rfl)
theorem args_rstrip (a b : Value) : argsOk "bytes.rstrip" ⟨[a, b], []⟩ := by
  unfold argsOk; rw [signature?_of (id := "bytes.rstrip") (n := ['p', 'i', 'r', 't', 's', 'r']) (o := ['s', 'e', 't', 'y', 'b']) (by kernel_rfl) FB.owner_bytes]; kernel_rfl
theorem meth_rstrip {M : Model} {A : Around} {E : Value → Shared → Prop} {s : Shared} {b : Array UInt8} {t : Tok} {pl : Sem Bool} {Q : Value × List Value → Shared → Prop} (h : Q (.builtin "bytes.rstrip", [.bytes b t]) s) : wpAny M A (getMethod (.bytes b t) "rstrip" pl) Q E s := by
  with_reducible exact KBd.method_of (.bytes b t) (typeIs_bytes _ _ _) slot_rstrip type_rstrip KBd.noRef h

section
open Builtin
variable {prog : Program} {w : World} {A : Around} {E : Value → Shared → Prop} {s : Shared} {l m : List Nat} {t u : Tok}
theorem searchArgs_eq {b y : Array UInt8} : Bytes.searchArgs .bytes "rfind" ⟨[.bytes b t, .bytes y u], []⟩ = pure (b, y, if ((b.size : Int) - 0 < (y.size : Int)) then none else some ((0 : Int).toNat, (b.size : Int).toNat)) := by
  show (Bytes.buffer? _ (Value.bytes y u) >>= _) = _
  rw [KBy.buffer_eq]
  have e : Bytes.window b.size none none = (0, (b.size : Int)) := by
    unfold Bytes.window
    simp
    omega
  show (pure (b, y, if ((Bytes.window b.size none none).2 - (Bytes.window b.size none none).1 < (y.size : Int)) then none else some ((Bytes.window b.size none none).1.toNat, (Bytes.window b.size none none).2.toNat)) : Sem _) = _
  rw [e]
theorem rfind_val (hs : Small l) {c : Nat} (hc : c < 256) : ((if ((mkB l).size : Int) - 0 < ((mkB [c]).size : Int) then none else some ((0 : Int).toNat, ((mkB l).size : Int).toNat)).bind fun p => Bytes.rfind? (mkB l) (mkB [c]) p.1 p.2) = if cutL c l = 0 then none else some (cutL c l - 1) := by
  split
  · rename_i h
    rw [mkB_size, mkB_size] at h
    have : l = [] := List.length_eq_zero_iff.mp (by simp at h; omega)
    subst this
    rfl
  · exact rfindB l c hs hc
theorem gives_rfind (hs : Small l) {c : Nat} (hc : c < 256) : Gives («bytes.rfind» ⟨[.bytes (mkB l) t, .bytes (mkB [c]) u], []⟩) (.int ((cutL c l : Int) - 1)) := by
  refine .of_wp fun M A E s Q hq => ?_
  show wpAny M A (Bytes.searchArgs .bytes "rfind" ⟨[.bytes (mkB l) t, .bytes (mkB [c]) u], []⟩ >>= fun r => _) _ E s
  refine wpAny_bind (wpAny_of_eq searchArgs_eq ?_)
  show wpAny M A (match ((if ((mkB l).size : Int) - 0 < ((mkB [c]).size : Int) then none else some ((0 : Int).toNat, ((mkB l).size : Int).toNat)).bind fun p => Bytes.rfind? (mkB l) (mkB [c]) p.1 p.2) with | some i => retInt i | none => _) _ E s
  rw [rfind_val hs hc]
  by_cases h : cutL c l = 0
  · rw [if_pos h]
    rw [h] at hq
    exact wpAny_bind (wpAny_rule (wpAny_bind (wpAny_mkInt (wpAny_pure ⟨_, rfl, hq⟩))))
  · rw [if_neg h]
    have e : ((cutL c l - 1 : Nat) : Int) = (cutL c l : Int) - 1 := by omega
    show wpAny M A (retInt ((cutL c l - 1 : Nat) : Int)) _ E s
    rw [e]
    exact wpAny_bind (wpAny_mkInt (wpAny_pure ⟨_, rfl, hq⟩))
theorem rfind_B {c : Nat} {y : Array UInt8} {Q : Value → Shared → Prop} (hs : Small l) (hy : y = mkB [c]) (hc : c < 256) (hq : Q (.int ((cutL c l : Int) - 1) s.toks) { s with toks := s.toks + 1 }) : wpAny (model prog w) A (call (.builtin "bytes.rfind") [.bytes (mkB l) t, .bytes y u]) Q E s := by
  subst hy
  exact call_gives slot_rfind (typeIs_bytes _ _ _) entry_rfind (args_rfind _ _) (gives_rfind hs hc) hq
theorem rstB (hs : Small l) {c : Nat} (hc : c < 256) : ((mkB l).toList.reverse.dropWhile (mkB [c]).contains).reverse = (rstL c l).map Nat.toUInt8 := by
  have e : (mkB l).toList = l.map Nat.toUInt8 := by simp [mkB]
  have g : ∀ r : List Nat, Small r → (r.map Nat.toUInt8).dropWhile (mkB [c]).contains = (r.dropWhile fun x => x == c).map Nat.toUInt8 := by
    intro r
    induction r with
    | nil => intro _; rfl
    | cons x r ih =>
      intro hr
      have hx : (mkB [c]).contains x.toUInt8 = (x == c) := by
        rw [← u8_eq (hr x (.head _)) hc]
        simp only [mkB, List.map_cons, List.map_nil, List.contains_toArray, List.contains_cons, List.contains_nil, Bool.or_false]
      rw [List.map_cons, List.dropWhile_cons, List.dropWhile_cons, hx]
      split
      · exact ih fun y hy => hr y (.tail _ hy)
      · rfl
  rw [e, ← List.map_reverse, g _ (fun x hx => hs x (List.mem_reverse.mp hx)), ← List.map_reverse]
  rfl
theorem gives_rstrip (hs : Small l) (hz : l.length ≤ 4096) {c : Nat} (hc : c < 256) {M : Model} {Q : Fin → Shared → Prop} (hq : ∀ t' k, Q (.done (.ret (.bytes (mkB (rstL c l)) t'))) { s with toks := k }) :
    wpAny M A («bytes.rstrip» ⟨[.bytes (mkB l) t, .bytes (mkB [c]) u], []⟩) Q E s := by
  show wpAny M A (Bytes.bytesLike _ (.bytes (mkB [c]) u) >>= fun set => _) Q E s
  rw [KBd.like_eq]
  refine wpAny_bind (wpAny_pure ?_)
  refine wpAny_bind (wpAny_pure ?_)
  refine wpAny_bind (wpAny_of_eq (a := mkB l) rfl ?_)
  show wpAny M A (if ((((mkB l).toList.reverse.dropWhile (mkB [c]).contains).reverse).length == (mkB l).size) = true then _ else _) Q E s
  rw [rstB hs hc, List.length_map, mkB_size]
  by_cases h : (rstL c l).length = l.length
  · rw [if_pos (beq_iff_eq.mpr h)]
    have e : rstL c l = l := by
      rw [rstL_take] at h ⊢
      rw [List.take_of_length_le]
      rw [List.length_take] at h
      omega
    refine wpAny_bind (wpAny_rule ?_)
    rw [e] at hq
    exact wpAny_bind (wpAny_bind (wpAny_typeOf (typeIs_bytes _ _ _) (wpAny_pure (wpAny_pure (hq _ _)))))
  · rw [if_neg (by simp [h])]
    show wpAny M A (mkBytes (((mkB l).toList.reverse.dropWhile (mkB [c]).contains).reverse).toArray >>= fun v => ret v) Q E s
    rw [rstB hs hc]
    refine wpAny_bind (wpAny_mkBytes (wpAny_pure (hq _ _)) ?_)
    have := rstL_length c l
    rw [sizeLine_eq, List.size_toArray, List.length_map]
    omega
theorem rstrip_B {c : Nat} {y : Array UInt8} {Q : Value → Shared → Prop} (hs : Small l) (hy : y = mkB [c]) (hc : c < 256) (hz : l.length ≤ 4096) (hq : ∀ t' k, (rstL c l).length ≤ l.length → Q (.bytes (mkB (rstL c l)) t') { s with toks := k }) :
    wpAny (model prog w) A (call (.builtin "bytes.rstrip") [.bytes (mkB l) t, .bytes y u]) Q E s := by
  subst hy
  refine call_meets (S := fun _ R s' => s' = s ∧ ∀ t' k, R (.ok (.ret (.bytes (mkB (rstL c l)) t'))) { s with toks := k }) slot_rstrip (typeIs_bytes _ _ _) entry_rstrip (args_rstrip _ _) ?_ ⟨rfl, fun t' k => hq t' k (rstL_length c l)⟩
  rintro prog w A R s' ⟨rfl, h⟩
  exact gives_rstrip hs hz hc h
end
end Mine
namespace Mine
noncomputable def Stop (P : Prop) : Prop := P
theorem Stop.of {P : Prop} (h : Stop P) : P := h
@[irreducible] def StopG (P : Prop) : Prop := P
theorem StopG.eq (P : Prop) : StopG P = P := by unfold StopG; rfl
theorem goodStop {c : ClaimW} {cl : Str → Option Addr} {mean : ExcName → Option Value} {args : List WData} {s₁ s' : Shared} {r : Except Value Flow} (h : StopG (GoodW c cl mean args s₁ r s')) : GoodW c cl mean args s₁ r s' := by rw [StopG.eq] at h; exact h
theorem stopG {P : Prop} (h : StopG P) : P := by rw [StopG.eq] at h; exact h
section
variable {prog : Program} {w : World} {A : Around} {E : Value → Shared → Prop} {s : Shared} {env : Env} {h₀ : Heap} {x : Str} {body : List Stmt} {Q : Flow → Shared → Prop}

theorem cut_int {M : Model} {A : Around} {t : Sem Value} {Q : Value → Shared → Prop} {E : Value → Shared → Prop} {s : Shared} (h1 : wpAny M A t (fun v s' => Stop (∃ (n : Int) (u : Tok) (k : Nat), v = .int n u ∧ 0 ≤ n ∧ n ≤ 1114111 ∧ s' = { s with toks := k })) E s)
    (h2 : ∀ (n : Int) (u : Tok) (k : Nat), 0 ≤ n → n ≤ 1114111 → Q (.int n u) { s with toks := k }) : wpAny M A t Q E s :=
  wpAny_mono h1 (fun v s' h => by obtain ⟨n, u, k, rfl, a, b, rfl⟩ := h; exact h2 n u k a b) fun _ _ e => e
/-- the end of a loop's turn: the state's letters c, their ledger and names -/
noncomputable def TurnEnd {σ : Type} (h₀ : Heap) (L : Addr) (Led : σ → List (Addr × Obj)) (ps : σ → List (Str × Value)) (x : Str) (stored : List Str) (m₀ : Str → Option Value) (P : σ → Prop) (I : Addr) (oI : Obj) (s₁ s₂ : Shared) : Prop :=
  ∃ c h' tk m' news', s₂ = { s₁ with heap := h', toks := tk } ∧ Fr h₀ L h' m' ∧ News h₀ L h' news' ∧ (∀ p ∈ Led c, p ∈ news') ∧ (I, oI) ∈ news' ∧ (∀ p ∈ Led c, p.1 ≠ I) ∧ (∀ p ∈ ps c, m' p.1 = some p.2) ∧ (∀ z, z ≠ x → (∀ p ∈ ps c, z ≠ p.1) → stored.contains z = false → m' z = m₀ z) ∧ P c
noncomputable def TurnPost {σ : Type} (h₀ : Heap) (L : Addr) (Led : σ → List (Addr × Obj)) (ps : σ → List (Str × Value)) (x : Str) (stored : List Str) (m₀ : Str → Option Value) (P : σ → Prop) (I : Addr) (oI : Obj) (s₁ : Shared) (Q : Flow → Shared → Prop) (f : Flow) (s₂ : Shared) : Prop :=
  match f with
  | .ret v => Q (.ret v) s₂
  | .brk => Q .next s₂
  | _ => TurnEnd h₀ L Led ps x stored m₀ P I oI s₁ s₂

theorem turn_end {σ : Type} {L : Addr} {Led : σ → List (Addr × Obj)} {ps : σ → List (Str × Value)} {stored : List Str} {m₀ m' : Str → Option Value} {P : σ → Prop} {I : Addr} {oI : Obj} {s₁ : Shared} {h' : Heap} {tk : Nat} {news' : List (Addr × Obj)} (c : σ)
    (F : Fr h₀ L h' m') (N : News h₀ L h' news') (hn : ∀ p ∈ Led c, p ∈ news') (hI : (I, oI) ∈ news') (hne : ∀ p ∈ Led c, p.1 ≠ I) (hk : ∀ p ∈ ps c, m' p.1 = some p.2)
    (hr : ∀ z, z ≠ x → (∀ p ∈ ps c, z ≠ p.1) → stored.contains z = false → m' z = m₀ z) (hp : P c) : TurnEnd h₀ L Led ps x stored m₀ P I oI s₁ { s₁ with heap := h', toks := tk } :=
  ⟨c, h', tk, m', news', rfl, F, N, hn, hI, hne, hk, hr, hp⟩

theorem for_core {σ : Type} {I : Addr} {fp : List Addr} {n : Nat} {Pv : Nat → Value → Prop} {St : Nat → Heap → Prop} {m₀ : Str → Option Value} (Led : σ → List (Addr × Obj)) (ps : σ → List (Str × Value)) (stored : List Str) (P : Nat → σ → Prop) (c₀ : σ)
    (W : Walks prog w A I fp [I] n Pv St) (hLf : env.locals ∉ fp) (hI0 : h₀.get? I = none) (hoI : ∀ i h, St i h → ∃ o, h.get? I = some o)
    (hfp : ∀ b ∈ fp, b = I ∨ (∃ o, h₀.get? b = some o) ∨ ∃ o, ∀ c, (b, o) ∈ Led c)
    (hst : St 0 s.heap) (F : Fr h₀ env.locals s.heap m₀) (N : News h₀ env.locals s.heap (Led c₀)) (hIl : ∀ p ∈ Led c₀, p.1 ≠ I) (hk : ∀ p ∈ ps c₀, m₀ p.1 = some p.2) (hp : P 0 c₀)
    (turn : ∀ (c : σ) i v (u : Str → Option Value) h tk oI, i < n → Pv i v → P i c → (∀ p ∈ Led c, p.1 ≠ I) →
      Fr h₀ env.locals h (fun y => if y = x then some v else kstB (fun z => if stored.contains z then u z else m₀ z) (ps c) y) → News h₀ env.locals h ((I, oI) :: Led c) →
      wpAny (model prog w) A (execs body env) (TurnPost h₀ env.locals Led ps x stored m₀ (P (i + 1)) I oI { s with heap := h, toks := tk } Q) E { s with heap := h, toks := tk })
    (done : ∀ (c : σ) (u : Str → Option Value) h tk, P n c → Fr h₀ env.locals h (fun y => if y = x then u y else kstB (fun z => if stored.contains z then u z else m₀ z) (ps c) y) → News h₀ env.locals h (Led c) → Q .next { s with heap := h, toks := tk }) :
    LoopAtV prog w A h₀ env x body Q E (.ref I) s := by
  let J : Nat → (Str → Option Value) → List (Addr × Obj) → Prop := fun i m nx => ∃ c, nx = Led c ∧ (∀ p ∈ ps c, m p.1 = some p.2) ∧ (∀ z, z ≠ x → (∀ p ∈ ps c, z ≠ p.1) → stored.contains z = false → m z = m₀ z) ∧ P i c
  refine ⟨I, fp, [I], n, Pv, St, m₀, Led c₀, J, rfl, W, hLf, ?_, ?_, hst, F, N, ⟨c₀, rfl, hk, fun _ _ _ _ => rfl, hp⟩, ?_, ?_⟩
  · intro b hb; rw [List.mem_singleton.mp hb]; exact hI0
  · intro p hp hq; exact hIl p hp (List.mem_singleton.mp hq)
  · rintro i v m₁ news₁ s₁ own ⟨hh', tk', rfl⟩ hin hP ⟨c, rfl, h1, h2, hp'⟩ hoff hown hget hmem hst' F₁ N₁
    have hne : ∀ p ∈ Led c, p.1 ≠ I := fun p hp e => hoff p hp (List.mem_singleton.mpr e)
    obtain ⟨oI, hI⟩ := hoI _ _ hst'
    have hIfp : I ∈ fp := W.sub I (.head _)
    have hIown : (I, oI) ∈ own := hmem I hIfp hI0 oI hI
    have N₂ : News h₀ env.locals hh' ((I, oI) :: Led c) := fun p hp => (List.mem_cons.mp hp).elim (fun e => N₁ p (List.mem_append.mpr (.inl (e ▸ hIown)))) fun h => N₁ p (List.mem_append.mpr (.inr h))
    refine wpAny_mono (turn c i v m₁ hh' tk' oI hin hP hp' hne (kst_fr h1 h2 F₁) N₂) (fun f s₂ p => ?_) fun _ _ e => e
    have fin : TurnEnd h₀ env.locals Led ps x stored m₀ (P (i + 1)) I oI { s with heap := hh', toks := tk' } s₂ → LoopStepU h₀ env.locals [I] own (J (i + 1)) { s with heap := hh', toks := tk' } .next s₂ := by
      rintro ⟨c', h', tk, m', news', e, F', N', hn, hI', hne', hk', hr', hp''⟩
      refine ⟨rfl, h', tk, m', Led c', e, F', fun p hp => ?_, fun p hp hq => hne' p hp (List.mem_singleton.mp hq), c', rfl, hk', hr', hp''⟩
      rcases List.mem_append.mp hp with hp | hp
      · have hg : hh'.get? p.1 = some p.2 := hget p hp
        rcases hfp p.1 (hown p hp) with e1 | ⟨o, e1⟩ | ⟨o, e1⟩
        · have : p = (I, oI) := by
            have h5 := hg
            rw [e1, hI] at h5
            exact Prod.ext e1 (Option.some.inj h5).symm
          rw [this]; exact N' _ hI'
        · have h5 := (N₁ p (List.mem_append.mpr (.inl hp))).2.2
          rw [e1] at h5; cases h5
        · have h5 := (N₁ _ (List.mem_append.mpr (.inr (e1 c)))).1
          have : p = (p.1, o) := Prod.ext rfl (by have h6 := hg; simp only at h5; rw [h5] at h6; exact (Option.some.inj h6).symm)
          rw [this]; exact N' _ (hn _ (e1 c'))
      · exact N' p (hn p hp)
    cases f with
    | ret v => exact .ret p
    | brk => exact .brk p
    | next => exact .next (fin p)
    | cont => exact .cont (fin p)
  · rintro h' tk m' news' F' N' _ ⟨c, rfl, h1, h2, hp'⟩
    exact done c m' h' tk hp' (kst_frOut h1 h2 F') N'

/-- a for over a list that stays as it is -/
theorem for_list {σ : Type} {l : Addr} {vs : List Value} {m₀ : Str → Option Value} (Led : σ → List (Addr × Obj)) (ps : σ → List (Str × Value)) (stored : List Str) (P : Nat → σ → Prop) (c₀ : σ)
    (hh : A.handled = none) (hl : s.heap.IsList l vs.toArray) (hl2 : (∃ o, h₀.get? l = some o) ∨ ∃ o, ∀ c, (l, o) ∈ Led c) (F : Fr h₀ env.locals s.heap m₀) (N : News h₀ env.locals s.heap (Led c₀)) (hk : ∀ p ∈ ps c₀, m₀ p.1 = some p.2) (hp : P 0 c₀)
    (turn : ∀ (c : σ) i v (u : Str → Option Value) h tk I oI, i < vs.length → vs[i]? = some v → P i c → (∀ p ∈ Led c, p.1 ≠ I) →
      Fr h₀ env.locals h (fun y => if y = x then some v else kstB (fun z => if stored.contains z then u z else m₀ z) (ps c) y) → News h₀ env.locals h ((I, oI) :: Led c) →
      wpAny (model prog w) A (execs body env) (TurnPost h₀ env.locals Led ps x stored m₀ (P (i + 1)) I oI { s with heap := h, toks := tk } Q) E { s with heap := h, toks := tk })
    (done : ∀ (c : σ) (u : Str → Option Value) h tk, P vs.length c → Fr h₀ env.locals h (fun y => if y = x then u y else kstB (fun z => if stored.contains z then u z else m₀ z) (ps c) y) → News h₀ env.locals h (Led c) → Q .next { s with heap := h, toks := tk }) :
    wpAny (model prog w) A (pyIter (.ref l)) (fun it s₂ => LoopAtV prog w A h₀ env x body Q E it s₂) E s := by
  obtain ⟨ol, hol, _⟩ := id hl
  have hlt : l < s.heap.objs.size := Heap.lt_size hol
  refine wpAny_pyIter_list hl ?_
  have W := Walks.list (prog := prog) (w := w) hh s.heap.objs.size l (Nat.ne_of_lt hlt) vs.toArray
  have hlen : vs.toArray.size = vs.length := by simp
  rw [hlen] at W
  have hne : env.locals ≠ l := by
    intro e
    rcases hl2 with ⟨o, h1⟩ | ⟨o, h1⟩
    · rw [← e] at h1; exact absurd (Nat.lt_of_lt_of_le (Heap.lt_size h1) F.above) (Nat.lt_irrefl _)
    · exact (N _ (h1 c₀)).2.1 e.symm
  refine for_core Led ps stored P c₀ W ?_ (next_is_new F) (fun i h st => st.1.imp fun _ x => x.1) ?_ ⟨⟨_, Heap.get?_push_size _ rfl, rfl, rfl⟩, hl.at fun o e => Heap.get?_push_of_some _ e⟩ (F.push _) (fun p hp => ⟨Heap.get?_push_of_some _ (N p hp).1, (N p hp).2⟩) ?_ hk hp ?_ ?_
  · intro hm
    rcases List.mem_cons.mp hm with e | hm
    · exact absurd F.ns.lt (e ▸ Nat.lt_irrefl _)
    · exact hne (List.mem_singleton.mp hm)
  · intro b hb
    rcases List.mem_cons.mp hb with e | hm
    · exact .inl e
    · rw [List.mem_singleton.mp hm]; exact .inr hl2
  · intro p hp e
    exact absurd (Heap.lt_size (N p hp).1) (e ▸ Nat.lt_irrefl _)
  · intro c i v u h tk oI hi hv hp hne F N
    exact turn c i v u h tk _ oI hi (by simpa using hv) hp hne F N
  · exact done

theorem for_range {σ : Type} {r : Addr} {a₀ b₀ : Int} {t₀ u₀ v₀ : Tok} {n : Nat} {m₀ : Str → Option Value} (Led : σ → List (Addr × Obj)) (ps : σ → List (Str × Value)) (stored : List Str) (P : Nat → σ → Prop) (c₀ : σ)
    (hh : A.handled = none) (hr : IsRange s.heap r a₀ b₀ 1 t₀ u₀ v₀) (hsmall : Builtin.Range.small a₀ b₀ 1 = true) (hn : Builtin.Range.rangeSize a₀ b₀ 1 = (n : Int)) (F : Fr h₀ env.locals s.heap m₀) (N : News h₀ env.locals s.heap (Led c₀)) (hk : ∀ p ∈ ps c₀, m₀ p.1 = some p.2) (hp : P 0 c₀)
    (turn : ∀ (c : σ) i k t (u : Str → Option Value) h tk I oI, i < n → k = a₀ + (i : Int) → P i c → (∀ p ∈ Led c, p.1 ≠ I) →
      Fr h₀ env.locals h (fun y => if y = x then some (.int k t) else kstB (fun z => if stored.contains z then u z else m₀ z) (ps c) y) → News h₀ env.locals h ((I, oI) :: Led c) →
      wpAny (model prog w) A (execs body env) (TurnPost h₀ env.locals Led ps x stored m₀ (P (i + 1)) I oI { s with heap := h, toks := tk } Q) E { s with heap := h, toks := tk })
    (done : ∀ (c : σ) (u : Str → Option Value) h tk, P n c → Fr h₀ env.locals h (fun y => if y = x then u y else kstB (fun z => if stored.contains z then u z else m₀ z) (ps c) y) → News h₀ env.locals h (Led c) → Q .next { s with heap := h, toks := tk }) :
    wpAny (model prog w) A (pyIter (.ref r)) (fun it s₂ => LoopAtV prog w A h₀ env x body Q E it s₂) E s := by
  refine wpAny_pyIter_range hr hsmall ?_
  refine for_core Led ps stored P c₀ (Walks.range hh s.heap.objs.size a₀ 1 n) ?_ (next_is_new F) (fun i h st => ⟨_, st⟩) (fun b hb => .inl (List.mem_singleton.mp hb)) (by show IsRangeIter _ _ _ _ _; rw [hn]; simpa using Heap.get?_push_size _ rfl) (F.push _) (fun p hp => ⟨Heap.get?_push_of_some _ (N p hp).1, (N p hp).2⟩) ?_ hk hp ?_ done
  · intro hm
    exact absurd F.ns.lt ((List.mem_singleton.mp hm) ▸ Nat.lt_irrefl _)
  · intro p hp e
    exact absurd (Heap.lt_size (N p hp).1) (e ▸ Nat.lt_irrefl _)
  · rintro c i v u h tk oI hi ⟨t, rfl⟩ hp hne F N
    exact turn c i _ t u h tk _ oI hi (by omega) hp hne F N
end
noncomputable def IN (l : List Nat) : List Int := l.map (fun c : Nat => (c : Int))
theorem IN_length (l : List Nat) : (IN l).length = l.length := by simp [IN]
theorem IN_append (a b : List Nat) : IN (a ++ b) = IN a ++ IN b := by simp [IN]
theorem ints_at {vs : List Value} {ns : List Int} (h : IntsAre vs ns) : ∀ {i : Nat} {v : Value}, vs[i]? = some v → ∃ n t, ns[i]? = some n ∧ v = .int n t := by
  induction h with
  | nil => intro i v h; simp at h
  | cons n t _ ih =>
    intro i v h
    cases i with
    | zero => simp at h; exact ⟨n, t, rfl, h.symm⟩
    | succ i => simp at h; exact ih h
theorem IN_at {vs : List Value} {l : List Nat} (h : IntsAre vs (IN l)) {i : Nat} {v : Value} (hv : vs[i]? = some v) : ∃ c t, l[i]? = some c ∧ v = .int (c : Int) t := by
  obtain ⟨n, t, h1, h2⟩ := ints_at h hv
  unfold IN at h1
  rw [List.getElem?_map] at h1
  cases e : l[i]? with
  | none => rw [e] at h1; cases h1
  | some c => rw [e] at h1; cases h1; exact ⟨c, t, rfl, h2⟩
theorem ints_len {vs : List Value} {l : List Nat} (h : IntsAre vs (IN l)) : vs.length = l.length := by rw [h.length, IN_length]
theorem carried_ints {α : Type} {f : α → Int} : ∀ {as : List α} {ys : List Value}, CarriedAll ys (as.map fun a => PyData.int (f a)) → IntsAre ys (as.map f)
  | [], _, h => by cases h; exact .nil
  | a :: as, _, h => by
    cases h with
    | cons h r =>
      cases h
      exact .cons _ _ (carried_ints r)
theorem carried_strs {α : Type} {f : α → Str} : ∀ {as : List α} {ys : List Value}, CarriedAll ys (as.map fun a => PyData.str (f a)) → StrsAre ys (as.map f)
  | [], _, h => by cases h; exact .nil
  | a :: as, _, h => by
    cases h with
    | cons h r =>
      cases h
      exact .cons _ _ (carried_strs r)
theorem Keeps.rfl' {s : Shared} : Keeps s s := ⟨s.heap, s.toks, rfl, fun _ _ e => e⟩
theorem Keeps.toks {s : Shared} (k : Nat) : Keeps s { s with toks := k } := ⟨s.heap, k, rfl, fun _ _ e => e⟩
theorem News.ofPlain {h₀ h : Heap} {L D : Addr} {m : Str → Option Value} {news : List (Addr × Obj)} {ys : List Value} (F : Fr h₀ L h m) (N : News h₀ L h news) (h0 : h₀.get? D = none) (hp : NewPlain h news D ys.toArray) : ∃ n, News h₀ L h ((D, listOf ys.toArray n) :: news) := by
  obtain ⟨n, e⟩ := hp.1
  refine ⟨n, fun p hm => ?_⟩
  rcases List.mem_cons.mp hm with rfl | hm
  · exact ⟨e, hp.ne_locals F, h0⟩
  · exact N p hm
theorem take_snoc {l : List Nat} {i c : Nat} (h : l[i]? = some c) : l.take (i + 1) = l.take i ++ [c] := by rw [List.take_add_one, h]; rfl
theorem off_mem {d : Addr} {l : List (Addr × Obj)} (h : AllLt d l) : ∀ p ∈ l, p.1 ≠ d := fun p hp => Nat.ne_of_lt (by
  induction l with
  | nil => exact absurd hp (List.not_mem_nil)
  | cons q l ih => exact (List.mem_cons.mp hp).elim (fun e => by rw [e]; exact h.1) (fun hp => ih h.2 hp))
end Mine
namespace Mine
section
variable {prog : Program} {w : World} {A : Around} {E : Value → Shared → Prop} {s : Shared} {h₀ : Heap} {L : Addr} {m : Str → Option Value} {env : Env}

/-- what a comprehension over a list asks behind its source: pz the test, d the element -/
noncomputable def CompAsk {α : Type} (K : ItemKind α) (prog : Program) (w : World) (A : Around) (h₀ : Heap) (L : Addr) (m : Str → Option Value) (env : Env) (elt : Expr) (x : Str) (tests : List Expr) (scope : Scope) (cl : List (Str × Addr)) (pz : α → Bool) (d : α → PyData)
    (cont : Addr → List Value → Heap → Nat → Prop → Prop) (xv : Value) (s₁ : Shared) : Prop :=
  ∃ (news : List (Addr × Obj)) (l : Addr) (vs : List Value) (n : Nat) (as : List α), xv = .ref l ∧ (l, listOf vs.toArray n) ∈ news ∧ AreOf K vs as ∧ as.length ≤ 8192 ∧ Fr h₀ L s₁.heap m ∧ News h₀ L s₁.heap news ∧
    (∀ C a v s₂ m₂ E', a ∈ as → K.is a v → Fr s₁.heap (compEnvC scope cl C env).locals s₂.heap m₂ → (∀ b o, s₁.heap.get? b = some o → s₂.heap.get? b = some o) → m₂ x = some v →
      match tests with
      | [] => pz a = true
      | [c] => wpAny (model prog w) A (isTrue c (compEnvC scope cl C env) (eval c (compEnvC scope cl C env))) (fun ok s₃ => ok = pz a ∧ Keeps s₂ s₃) E' s₂
      | _ => False) ∧
    (∀ C a v s₂ m₂ E', a ∈ as → K.is a v → pz a = true → Fr s₁.heap (compEnvC scope cl C env).locals s₂.heap m₂ → (∀ b o, s₁.heap.get? b = some o → s₂.heap.get? b = some o) → m₂ x = some v → wpAny (model prog w) A (eval elt (compEnvC scope cl C env)) (fun y s₃ => Carried y (d a) ∧ Keeps s₂ s₃) E' s₂) ∧
    (∀ D ys h' tk n', News h₀ L h' ((D, listOf ys.toArray n') :: news) → (∀ p ∈ news, p.1 ≠ D) → cont D ys h' tk (CarriedAll ys ((as.filter pz).map d)))

theorem comp_tests {tests : List Expr} {cenv : Env} {P : Bool} {M : Model} {s₂ : Shared} {Q : Bool → Shared → Prop} {E' : Value → Shared → Prop}
    (h : match tests with
      | [] => Q true s₂
      | [c] => wpAny M A (isTrue c cenv (eval c cenv)) Q E' s₂
      | _ => False) :
    wpAny M A (forIn tests true fun c r => if r = true then do let ok ← isTrue c cenv (eval c cenv); pure (ForInStep.yield ok) else pure (ForInStep.yield r)) Q E' s₂ := by
  match tests, h with
  | [], h => exact wpAny_pure h
  | [c], h =>
    rw [List.forIn_cons]
    exact wpAny_bind (wpAny_bind (wpAny_mono h (fun ok s₃ hk => wpAny_pure (wpAny_pure hk)) fun _ _ e => e))

theorem comp_eval {α : Type} {K : ItemKind α} {elt iter : Expr} {x : Str} {px : Pos} {tests : List Expr} {scope : Scope} {cl : List (Str × Addr)} {pos : Pos} {Q : Value → Shared → Prop} (pz : α → Bool) (d : α → PyData)
    (_F : Fr h₀ L s.heap m) (hh : A.handled = none) (hclos : closureFor scope env = pure cl) (hcell : ∀ y ∈ scope.names, y.2 ≠ .cell) (hkind : scope.kind = .function)
    (hnames : ∀ y ∈ scope.names, y.2 = .local → scope.names.lookup y.1 = some .local) (hx : scope.names.lookup x = some .local) (hs : ∀ x, foldedSetIterable iter env x = pure x)
    (h : wpAny (model prog w) A (eval iter env) (fun xv s₁ => Stop (CompAsk K prog w A h₀ L m env elt x tests scope cl pz d (fun D _ h' tk C => Fr h₀ L h' m → C → Q (.ref D) { s₁ with heap := h', toks := tk }) xv s₁)) E s) :
    wpAny (model prog w) A (eval (.ListComp elt [⟨.Name x px, iter, tests, 0⟩] scope pos) env) Q E s := by
  refine ListComp_DCn (K := K) (pz := pz) (d := d) (m := m) (h₀ := h₀) (L := L) hh hclos hcell hkind hnames hx (wpAny_mono h (fun xv s₁ h₁ => ?_) fun _ _ e => e) hs
  obtain ⟨news, l, vs, n, as, rfl, hl, hi, hz, F, N, ht, he, hc⟩ := h₁
  refine ⟨news, l, vs, as, rfl, News.isList N hl, hi, by rw [sizeLine_eq]; omega, F, N, ?_, ?_, ?_⟩
  · intro C a v s₂ m₂ E' hC ha hv hn hm hk
    have h2 := ht C a v s₂ m₂ E' ha hv (frInComp hn hk hC) hk hm
    refine comp_tests (P := true) ?_
    match tests, h2 with
    | [], h2 => exact ⟨h2.symm, Keeps.rfl'⟩
    | [c], h2 => exact h2
  · intro C a v s₂ m₂ E' hC ha hv hp hn hm hk
    exact he C a v s₂ m₂ E' ha hv hp (frInComp hn hk hC) hk hm
  · intro D ys h' tk F' N' h0 _ hp hca
    obtain ⟨n', N2⟩ := News.ofPlain F' N' h0 hp
    exact hc D ys h' tk n' N2 hp.2 F' hca

end
theorem IN_mem {a : Int} {l : List Nat} (h : a ∈ IN l) : ∃ c ∈ l, a = (c : Int) := by
  unfold IN at h
  obtain ⟨c, hc, rfl⟩ := List.mem_map.mp h
  exact ⟨c, hc, rfl⟩
noncomputable def joinL (sep : List Nat) : List (List Nat) → List Nat
  | [] => []
  | [x] => x
  | x :: y :: r => x ++ sep ++ joinL sep (y :: r)
theorem mkS_app (a b : List Nat) : mkS a ++ mkS b = mkS (a ++ b) := by
  apply Str.ext'
  show (mkS a).cps ++ (mkS b).cps = _
  simp [mkS]
theorem join_mkS (sep : List Nat) : ∀ ps : List (List Nat), Txt.join (mkS sep) (ps.map mkS) = mkS (joinL sep ps) := by
  have h : ∀ ps : List (List Nat), Str.join (mkS sep) (ps.map mkS) = mkS (joinL sep ps) := by
    intro ps
    induction ps with
    | nil => rfl
    | cons x r ih =>
      cases r with
      | nil => rfl
      | cons y r =>
        show mkS x ++ mkS sep ++ Str.join (mkS sep) ((y :: r).map mkS) = _
        rw [ih, mkS_app, mkS_app]; rfl
  intro ps
  rw [← h ps]
  exact StrLaws.glued_eq_join _ _
theorem joinL_nil : ∀ l : List Nat, joinL [] (l.map fun c => [c]) = l
  | [] => rfl
  | [x] => rfl
  | x :: y :: r => by
    show [x] ++ [] ++ joinL [] ((y :: r).map fun c => [c]) = _
    rw [joinL_nil (y :: r)]; rfl
theorem chrs_eq (codes : List Nat) : (((IN codes).filter fun _ => true).map fun n => (⟨#[n.toNat]⟩ : Str)) = (codes.map fun c => [c]).map mkS := by
  rw [List.filter_eq_self.mpr (fun _ _ => rfl)]
  unfold IN
  rw [List.map_map, List.map_map]
  rfl
theorem chrs_weight (codes : List Nat) : ((((codes.map fun c => [c]).map mkS)).map (·.length)).sum = codes.length := by
  induction codes with
  | nil => rfl
  | cons c r ih => simp only [List.map_cons, List.sum_cons, ih, List.length_cons, mkS_length, List.length_nil]; omega
theorem byteArr_IN (codes : List Nat) : byteArr (IN codes) = mkB codes := by
  unfold byteArr IN mkB
  rw [List.map_map]
  rfl
theorem IN_in {codes : List Nat} (h : Small codes) : KBa.In (IN codes) := fun n hn => by
  obtain ⟨c, hc, rfl⟩ := IN_mem hn
  have := h c hc
  omega
section
variable {prog : Program} {w : World} {A : Around} {E : Value → Shared → Prop} {s : Shared} {h₀ : Heap} {L D : Addr} {m : PySem.Str → Option Value} {news : List (Addr × Obj)} {vs : List Value} {n : Nat}
theorem bytes_IN {codes : List Nat} {Q : Value → Shared → Prop} (F : Fr h₀ L s.heap m) (N : News h₀ L s.heap news) (hh : A.handled = none) (hl : (D, listOf vs.toArray n) ∈ news) (hi : IntsAre vs (IN codes)) (hr : Small codes) (hn : codes.length ≤ 8192)
    (h : ∀ h' t' k, Fr h₀ L h' m → News h₀ L h' news → Q (.bytes (mkB codes) t') { s with heap := h', toks := k }) : wpAny (model prog w) A (call (.type "bytes") [.ref D]) Q E s :=
  KBa.make_K F N hh (News.isList N hl) hi (IN_in hr) (by rw [IN_length]; omega) fun h' t' k a b _ => by rw [byteArr_IN]; exact h h' t' k a b
theorem join_chrs {codes : List Nat} {ys : List Value} {x : Str} {t : Tok} {Q : Value → Shared → Prop} (N : News h₀ L s.heap news) (hx : x = mkS []) (hl : (D, listOf ys.toArray n) ∈ news) (hi : CarriedAll ys (((IN codes).filter fun _ => true).map fun n => PyData.str ⟨#[n.toNat]⟩)) (hn : codes.length ≤ 8192)
    (h : ∀ t' k, Q (.str (mkS codes) t') { s with toks := k }) : wpAny (model prog w) A (call (.builtin "str.join") [.str x t, .ref D]) Q E s := by
  have hi2 := carried_strs (f := fun n : Int => (⟨#[n.toNat]⟩ : Str)) hi
  rw [chrs_eq] at hi2
  refine join_listC (ys := (codes.map fun c => [c]).map mkS) (News.isList N hl) (show StrsAre ys _ from hi2) (by rw [hx, mkS_length]; exact Nat.zero_le _) ?_ fun t' k => ?_
  · rw [chrs_weight, List.length_map, List.length_map]; omega
  · rw [hx, join_mkS, joinL_nil]; exact h t' k
end
section
variable {prog : Program} {w : World} {A : Around} {E : Value → Shared → Prop} {s : Shared} {h₀ : Heap} {L D : Addr} {m : PySem.Str → Option Value} {news news' : List (Addr × Obj)} {vs : List Value} {n : Nat} {x : Value}
theorem append_L {Q : Value → Shared → Prop} (F : Fr h₀ L s.heap m) (N : News h₀ L s.heap news) (U : Upd D (listOf vs.toArray n) (listOf (vs ++ [x]).toArray (n + 1)) news news')
    (hz : vs.length ≤ 16777216) (h : ∀ h', Fr h₀ L h' m → News h₀ L h' news' → Q .none { s with heap := h' }) : wpAny (model prog w) A (call (.builtin "list.append") [.ref D, x]) Q E s :=
  append_K (its := vs.toArray) F N (by rw [List.push_toArray]; exact U) h (by rw [sizeLine_eq]; simpa using hz)
end
theorem IN_snoc {vs : List Value} {l : List Nat} {n : Int} {t : Tok} (h : IntsAre vs (IN l)) (h0 : 0 ≤ n) : IntsAre (vs ++ [.int n t]) (IN (l ++ [n.toNat])) := by
  rw [IN_append]
  have e : IN [n.toNat] = [n] := by simp only [IN, List.map_cons, List.map_nil]; rw [Int.toNat_of_nonneg h0]
  rw [e]
  exact h.append (.cons _ _ .nil)
theorem menuZ (i : Nat) : 0 ≤ ([47, 46, 97, 47, 46, 98, 47, 46] : List Int).getD i 0 ∧ ([47, 46, 97, 47, 46, 98, 47, 46] : List Int).getD i 0 ≤ 1114111 := by
  have h : ∀ n ∈ ([47, 46, 97, 47, 46, 98, 47, 46] : List Int), 0 ≤ n ∧ n ≤ 1114111 := by decide
  rw [List.getD_eq_getElem?_getD]
  cases e : ([47, 46, 97, 47, 46, 98, 47, 46] : List Int)[i]? with
  | none => simp
  | some n => exact h n (List.mem_of_getElem? e)
/-- what the building loops of the laws turn -/
structure SignSt where
  vc : List Value
  vm : List Value
  nc : Nat
  nm : Nat
  size : Int
  ts : Nat
  into : Int
  ti : Nat
noncomputable def SignSt.ok (c : SignSt) : Prop := ∃ codes more : List Nat, IntsAre c.vc (IN codes) ∧ IntsAre c.vm (IN more) ∧ ((codes.length : Int) + more.length ≤ c.size) ∧ c.size ≤ 40 ∧ (∀ k ∈ codes, k ≤ 1114111) ∧ (∀ k ∈ more, k ≤ 1114111)
theorem SignSt.start {a b ts ti : Nat} : SignSt.ok ⟨[], [], a, b, 0, ts, 0, ti⟩ := ⟨[], [], .nil, .nil, by simp, by simp, by simp, by simp⟩
theorem SignSt.lens {c : SignSt} (h : c.ok) : c.vc.length ≤ 40 ∧ c.vm.length ≤ 40 ∧ c.size ≤ 40 ∧ 0 ≤ c.size := by
  obtain ⟨_, _, a, b, d, e, f, g⟩ := h
  rw [ints_len a, ints_len b]
  omega
theorem abs_nonneg (x : Int) : 0 ≤ (if x < 0 then -x else x) := by split <;> omega
theorem all_snoc {l : List Nat} {n : Int} (h : ∀ k ∈ l, k ≤ 1114111) (h1 : n ≤ 1114111) : ∀ k ∈ l ++ [n.toNat], k ≤ 1114111 := by
  intro k hk
  rcases List.mem_append.mp hk with hk | hk
  · exact h k hk
  · rw [List.mem_singleton.mp hk]; omega
theorem SignSt.addC {c : SignSt} (h : c.ok) {n : Int} {t k ts : Nat} {s2 : Int} (h0 : 0 ≤ n) (h1 : n ≤ 1114111) (h2 : s2 = c.size + 1) (h3 : c.size < 40) {i2 : Int} {ti2 : Nat} : SignSt.ok ⟨c.vc ++ [.int n t], c.vm, k, c.nm, s2, ts, i2, ti2⟩ := by
  obtain ⟨p, q, a, b, d, e, f, g⟩ := h
  refine ⟨p ++ [n.toNat], q, IN_snoc a h0, b, ?_, ?_, all_snoc f h1, g⟩
  · simp only [List.length_append, List.length_singleton]; omega
  · simp only; omega
theorem SignSt.addM {c : SignSt} (h : c.ok) {n : Int} {t k ts : Nat} {s2 : Int} (h0 : 0 ≤ n) (h1 : n ≤ 1114111) (h2 : s2 = c.size + 1) (h3 : c.size < 40) {i2 : Int} {ti2 : Nat} : SignSt.ok ⟨c.vc, c.vm ++ [.int n t], c.nc, k, s2, ts, i2, ti2⟩ := by
  obtain ⟨p, q, a, b, d, e, f, g⟩ := h
  refine ⟨p, q ++ [n.toNat], a, IN_snoc b h0, ?_, ?_, f, all_snoc g h1⟩
  · simp only [List.length_append, List.length_singleton]; omega
  · simp only; omega
theorem SignSt.add0 {c : SignSt} (h : c.ok) {ts : Nat} {s2 : Int} (h2 : s2 = c.size + 1) (h3 : c.size < 40) {i2 : Int} {ti2 : Nat} : SignSt.ok ⟨c.vc, c.vm, c.nc, c.nm, s2, ts, i2, ti2⟩ := by
  obtain ⟨p, q, a, b, d, e, f, g⟩ := h
  exact ⟨p, q, a, b, by simp only; omega, by simp only; omega, f, g⟩
end Mine
namespace Mine
theorem IntsAre.one' (k : Nat) (t : Tok) : IntsAre [.int (k : Int) t] (IN [k]) := .cons _ _ .nil
theorem IntsAre.nil' : IntsAre [] (IN []) := .nil
theorem IN_filter (pz : Int → Bool) (p : Nat → Bool) (h : ∀ n : Nat, pz (n : Int) = p n) (l : List Nat) : (IN l).filter pz = IN (l.filter p) := by
  unfold IN
  rw [List.filter_map]
  congr 1
  exact List.filter_congr fun n _ => h n
theorem IN_any (l : List Nat) (c : Nat) : (IN l).any (· == (c : Int)) = l.contains c := by
  induction l with
  | nil => rfl
  | cons x r ih =>
    have e : IN (x :: r) = (x : Int) :: IN r := rfl
    rw [e, List.any_cons, List.contains_cons, ih]
    congr 1
    by_cases h : x = c
    · simp [h]
    · rw [beq_eq_false_iff_ne.mpr (by omega), beq_eq_false_iff_ne.mpr (by omega)]
theorem IN_inj : ∀ {a b : List Nat}, IN a = IN b → a = b
  | [], [], _ => rfl
  | [], _ :: _, h => by cases h
  | _ :: _, [], h => by cases h
  | x :: a, y :: b, h => by
    have e1 : IN (x :: a) = (x : Int) :: IN a := rfl
    have e2 : IN (y :: b) = (y : Int) :: IN b := rfl
    rw [e1, e2, List.cons.injEq] at h
    rw [IN_inj h.2]
    congr 1
    omega
theorem IN_take (l : List Nat) (k : Nat) : (IN l).take k = IN (l.take k) := by unfold IN; rw [List.map_take]
theorem IN_drop (l : List Nat) (k : Nat) : (IN l).drop k = IN (l.drop k) := by unfold IN; rw [List.map_drop]
theorem IN_getD (l : List Nat) (k : Nat) : (IN l).getD k 0 = ((l.getD k 0 : Nat) : Int) := by
  unfold IN
  rw [List.getD_eq_getElem?_getD, List.getD_eq_getElem?_getD, List.getElem?_map]
  cases l[k]? <;> rfl
theorem succ_cast (k : Nat) : (k : Int) + 1 = ((k + 1 : Nat) : Int) := by omega
section
variable {prog : Program} {w : World} {A : Around} {E : Value → Shared → Prop} {s : Shared} {h₀ : Heap} {L D D2 : Addr} {m : PySem.Str → Option Value} {news : List (Addr × Obj)} {vs ws : List Value} {n n2 : Nat} {l l2 : List Nat} {Q : Value → Shared → Prop} {value slice : PySem.Expr}
theorem len_L (N : News h₀ L s.heap news) (hm : (D, listOf vs.toArray n) ∈ news) (hi : IntsAre vs (IN l)) (hz : l.length ≤ 16384) (h : ∀ t' k, Q (.int (l.length : Int) t') { s with toks := k }) : wpAny (model prog w) A (call (.builtin "len") [.ref D]) Q E s :=
  kst_len N hm (ints_len hi) (by omega) (h _ _)
theorem item_L {k : Nat} {x : Int} {u : Tok} (N : News h₀ L s.heap news) (hm : (D, listOf vs.toArray n) ∈ news) (hi : IntsAre vs (IN l)) (hx : x = (k : Int)) (hk : k < l.length) (hz : l.length ≤ 16384) (h : ∀ t, Q (.int ((l.getD k 0 : Nat) : Int) t) s)
    (hs : subscripted slice false (.ref D) (.int x u) = operate [.ref D, .int x u] (getItem (.ref D) (.int x u)) := by with_unfolding_all rfl) :
    wpAny (model prog w) A (subscriptTail value slice (.ref D) (.int x u)) Q E s :=
  item_anyK (News.isList N hm) hi (by omega) (by rw [IN_length]; omega) (by omega) (fun t => by
    have e : x.toNat = k := by omega
    rw [e, IN_getD]; exact h t) hs
theorem notin_L {c : Nat} {x : Int} {u : Tok} (N : News h₀ L s.heap news) (hm : (D, listOf vs.toArray n) ∈ news) (hi : IntsAre vs (IN l)) (hx : x = (c : Int)) (h : Q (.bool (decide (c ∉ l))) s) : wpAny (model prog w) A (compareOp .NotIn (.int x u) (.ref D)) Q E s :=
  notin_list_ints (News.isList N hm) hi (by
    subst hx
    rw [IN_any]
    have e : (!l.contains c) = decide (c ∉ l) := by
      by_cases hc : c ∈ l
      · simp [hc]
      · simp [hc]
    rw [e]; exact h)
theorem ne_L (N : News h₀ L s.heap news) (hm : (D, listOf vs.toArray n) ∈ news) (hi : IntsAre vs (IN l)) (hm2 : (D2, listOf ws.toArray n2) ∈ news) (hj : IntsAre ws (IN l2)) (hu : A.units + 64 < cLine) (h : Q (.bool (decide (l ≠ l2))) s) :
    wpAny (model prog w) A (compareOp .NotEq (.ref D) (.ref D2)) Q E s :=
  ke_ne_ints (News.isList N hm) (News.isList N hm2) hi hj hu (by
    have e : (!decide (IN l = IN l2)) = decide (l ≠ l2) := by
      by_cases hc : l = l2
      · simp [hc]
      · have : IN l ≠ IN l2 := fun x => hc (IN_inj x)
        simp [hc, this]
    rw [e]; exact h)
theorem min_L (F : Fr h₀ L s.heap m) (N : News h₀ L s.heap news) (hh : A.handled = none) (hm : (D, listOf vs.toArray n) ∈ news) (hi : IntsAre vs (IN l)) (hne : 0 < l.length)
    (h : ∀ h' M (t : Tok) tk, Fr h₀ L h' m → News h₀ L h' news → M ∈ l → (∀ a, a ∈ l → M ≤ a) → Q (.int (M : Int) t) { s with heap := h', toks := tk }) : wpAny (model prog w) A (call (.builtin "min") [.ref D]) Q E s :=
  kso_min F N (News.isList N hm) hi (by rw [IN_length]; exact hne) hh fun h' M t tk F' N' h1 h2 => by
    obtain ⟨c, hc, rfl⟩ := IN_mem h1
    exact h h' c t tk F' N' hc fun a ha => by
      have := h2 (a : Int) (List.mem_map.mpr ⟨a, ha, rfl⟩)
      omega
theorem add_L (F : Fr h₀ L s.heap m) (N : News h₀ L s.heap news) (hm : (D, listOf vs.toArray n) ∈ news) (hm2 : (D2, listOf ws.toArray n2) ∈ news) (hi : IntsAre vs (IN l)) (hj : IntsAre ws (IN l2)) (hz : l.length + l2.length ≤ 16384)
    (h : ∀ D' us h', Fr h₀ L h' m → News h₀ L h' ((D', listOf (List.toArray us) 0) :: news) → (∀ p ∈ news, p.1 < D') → IntsAre us (IN (l ++ l2)) → Q (.ref D') { s with heap := h' }) : wpAny (model prog w) A (binaryOp .Add (.ref D) (.ref D2)) Q E s :=
  kmk_add_ints F N (News.isList N hm) (News.isList N hm2) hi hj (fun D' us h' F' N' l1 hI => h D' us h' F' N' l1 (by rw [IN_append]; exact hI)) (by rw [IN_length, IN_length, sizeLine_eq]; omega)
theorem upto_L {k : Nat} {y : Int} {u : Tok} (F : Fr h₀ L s.heap m) (N : News h₀ L s.heap news) (hm : (D, listOf vs.toArray n) ∈ news) (hi : IntsAre vs (IN l)) (hy : y = (k : Int)) (hz : l.length ≤ 16384)
    (h : ∀ D' us h', Fr h₀ L h' m → News h₀ L h' ((D', listOf (List.toArray us) 0) :: news) → (∀ p ∈ news, p.1 < D') → IntsAre us (IN (l.take k)) → Q (.ref D') { s with heap := h' })
    (hs : subscripted slice false (.ref D) (.ref s.heap.objs.size) = operate [.ref s.heap.objs.size, .ref D] (getItem (.ref D) (.ref s.heap.objs.size)) := by with_unfolding_all rfl) (ht : ∀ r, letTemporaryGo value (.ref D) r = pure () := by intro _; with_unfolding_all rfl) :
    wpAny (model prog w) A (subscriptTail value slice (.ref D) (.ref s.heap.objs.size)) Q E { s with heap := s.heap.push { cls := .type "slice", data := .fields #[.none, .int y u, .none] } } := by
  refine kmk_slice_ints (c := ((IN l).take y.toNat).length) (lo := none) (hi := some y) F N (News.isList N hm) .none (.int _ _) hi (kmk_upto hi (by omega)) rfl (fun D' us h' F' N' l1 hI _ _ => h D' us h' F' N' l1 ?_) hs ht (by rw [List.size_toArray, ints_len hi, sizeLine_eq]; omega)
  have e : y.toNat = k := by omega
  rw [e, IN_take] at hI
  exact hI
theorem from_L {k : Nat} {x : Int} {u : Tok} (F : Fr h₀ L s.heap m) (N : News h₀ L s.heap news) (hm : (D, listOf vs.toArray n) ∈ news) (hi : IntsAre vs (IN l)) (hx : x = (k : Int)) (hz : l.length ≤ 16384)
    (h : ∀ D' us h', Fr h₀ L h' m → News h₀ L h' ((D', listOf (List.toArray us) 0) :: news) → (∀ p ∈ news, p.1 < D') → IntsAre us (IN (l.drop k)) → Q (.ref D') { s with heap := h' })
    (hs : subscripted slice false (.ref D) (.ref s.heap.objs.size) = operate [.ref s.heap.objs.size, .ref D] (getItem (.ref D) (.ref s.heap.objs.size)) := by with_unfolding_all rfl) (ht : ∀ r, letTemporaryGo value (.ref D) r = pure () := by intro _; with_unfolding_all rfl) :
    wpAny (model prog w) A (subscriptTail value slice (.ref D) (.ref s.heap.objs.size)) Q E { s with heap := s.heap.push { cls := .type "slice", data := .fields #[.int x u, .none, .none] } } := by
  refine kmk_slice_ints (c := ((IN l).drop x.toNat).length) (lo := some x) (hi := none) F N (News.isList N hm) (.int _ _) .none hi (kmk_from hi (by omega)) rfl (fun D' us h' F' N' l1 hI _ _ => h D' us h' F' N' l1 ?_) hs ht (by rw [List.size_toArray, ints_len hi, sizeLine_eq]; omega)
  have e : x.toNat = k := by omega
  rw [e, IN_drop] at hI
  exact hI
end
/-! tuples of two -/
section
variable {A : Around} {s : Shared} {l m : List Nat} {t u : Tok}
theorem eqAt_S : SeqAt.EqAt A s (.str (mkS l) t) (.str (mkS m) u) (decide (l = m)) := by
  have h := SeqAt.EqAt.str_str (A := A) (s := s) (mkS l) t (mkS m) u
  have e : (mkS l == mkS m) = decide (l = m) := by
    by_cases hc : l = m
    · simp [hc]
    · have : mkS l ≠ mkS m := fun x => hc (mkS_inj x)
      simp [hc, this]
  rw [e] at h; exact h
theorem eqAt_B (h1 : Small l) (h2 : Small m) : SeqAt.EqAt A s (.bytes (mkB l) t) (.bytes (mkB m) u) (decide (l = m)) := fun prog w E Q h => by
  unfold eqBool
  refine wpAny_holding ?_
  refine wpAny_ite_split (fun hab => ?_) (fun _ => ?_)
  · have e : Value.bytes (mkB l) t = .bytes (mkB m) u := eq_of_beq hab
    have e2 : l = m := mkB_inj h1 h2 (by injection e)
    exact wpAny_bind (wpAny_rule (wpAny_pure (by simpa [e2] using h)))
  · exact wpAny_bind (eq_B (A := A) (prog := prog) (w := w) (t := t) (u := u) (l := l) (m := m) (s := s) rfl rfl h1 h2 (wpAny_truthy_bool h))
end
section
variable {prog : Program} {w : World} {A : Around} {E : Value → Shared → Prop} {s : Shared} {h₀ : Heap} {L D D2 : Addr} {news : List (Addr × Obj)} {v1 v2 u1 u2 : Value} {p q : Prop} [Decidable p] [Decidable q] {Q : Value → Shared → Prop}
theorem pair_all {b c : Bool} : ((List.range (min ([v1, v2] : List Value).toArray.size ([u1, u2] : List Value).toArray.size)).all (fun j => if j = 0 then b else c) && ([v1, v2] : List Value).toArray.size == ([u1, u2] : List Value).toArray.size) = (b && c) := by
  have e : List.range (min ([v1, v2] : List Value).toArray.size ([u1, u2] : List Value).toArray.size) = [0, 1] := rfl
  rw [e]
  simp
theorem tup_is (N : News h₀ L s.heap news) {vs : List Value} (hm : (D, tupO vs) ∈ news) : s.heap.IsTuple D vs.toArray := ⟨_, (N _ hm).1, rfl, 0, rfl⟩
theorem pair_eq (N : News h₀ L s.heap news) (hm : (D, tupO [v1, v2]) ∈ news) (hm2 : (D2, tupO [u1, u2]) ∈ news) (hu : A.units < cLine) (e1 : SeqAt.EqAt A.in1 s v1 u1 (decide p)) (e2 : SeqAt.EqAt A.in1 s v2 u2 (decide q)) (h : Q (.bool (decide (p ∧ q))) s) :
    wpAny (model prog w) A (compareOp .Eq (.ref D) (.ref D2)) Q E s := by
  refine SeqAt.RcAt.tuples (e := fun j => if j = 0 then decide p else decide q) (tup_is N hm) (tup_is N hm2) hu ?_ prog w E Q ?_
  · intro j h1 h2
    have : j = 0 ∨ j = 1 := by simp at h1; omega
    rcases this with rfl | rfl
    · exact e1
    · exact e2
  · rw [pair_all]
    have e : (decide p && decide q) = decide (p ∧ q) := by by_cases hp : p <;> by_cases hq : q <;> simp [hp, hq]
    rw [e]; exact h
theorem pair_ne (N : News h₀ L s.heap news) (hm : (D, tupO [v1, v2]) ∈ news) (hm2 : (D2, tupO [u1, u2]) ∈ news) (hu : A.units < cLine) (e1 : SeqAt.EqAt A.in1 s v1 u1 (decide p)) (e2 : SeqAt.EqAt A.in1 s v2 u2 (decide q)) (h : Q (.bool (decide (¬ (p ∧ q)))) s) :
    wpAny (model prog w) A (compareOp .NotEq (.ref D) (.ref D2)) Q E s := by
  refine SeqAt.RcNeAt.tuples (e := fun j => if j = 0 then decide p else decide q) (tup_is N hm) (tup_is N hm2) hu ?_ prog w E Q ?_
  · intro j h1 h2
    have : j = 0 ∨ j = 1 := by simp at h1; omega
    rcases this with rfl | rfl
    · exact e1
    · exact e2
  · rw [pair_all]
    have e : (!(decide p && decide q)) = decide (¬ (p ∧ q)) := by by_cases hp : p <;> by_cases hq : q <;> simp [hp, hq]
    rw [e]; exact h
end
section
variable {prog : Program} {w : World} {A : Around} {E : Value → Shared → Prop} {s : Shared} {h₀ : Heap} {L D D2 : Addr} {news : List (Addr × Obj)} {a b c d : List Nat} {t1 t2 t3 t4 : Tok} {Q : Value → Shared → Prop}
theorem pair_eqS (N : News h₀ L s.heap news) (hm : (D, tupO [.str (mkS a) t1, .str (mkS b) t2]) ∈ news) (hm2 : (D2, tupO [.str (mkS c) t3, .str (mkS d) t4]) ∈ news) (hu : A.units < cLine) (h : Q (.bool (decide (a = c ∧ b = d))) s) :
    wpAny (model prog w) A (compareOp .Eq (.ref D) (.ref D2)) Q E s := pair_eq N hm hm2 hu eqAt_S eqAt_S h
theorem pair_neS (N : News h₀ L s.heap news) (hm : (D, tupO [.str (mkS a) t1, .str (mkS b) t2]) ∈ news) (hm2 : (D2, tupO [.str (mkS c) t3, .str (mkS d) t4]) ∈ news) (hu : A.units < cLine) (h : Q (.bool (decide (¬ (a = c ∧ b = d)))) s) :
    wpAny (model prog w) A (compareOp .NotEq (.ref D) (.ref D2)) Q E s := pair_ne N hm hm2 hu eqAt_S eqAt_S h
theorem pair_eqB (N : News h₀ L s.heap news) (hm : (D, tupO [.bytes (mkB a) t1, .bytes (mkB b) t2]) ∈ news) (hm2 : (D2, tupO [.bytes (mkB c) t3, .bytes (mkB d) t4]) ∈ news) (hu : A.units < cLine) (h1 : Small a) (h2 : Small b) (h3 : Small c) (h4 : Small d) (h : Q (.bool (decide (a = c ∧ b = d))) s) :
    wpAny (model prog w) A (compareOp .Eq (.ref D) (.ref D2)) Q E s := pair_eq N hm hm2 hu (eqAt_B h1 h3) (eqAt_B h2 h4) h
theorem pair_neB (N : News h₀ L s.heap news) (hm : (D, tupO [.bytes (mkB a) t1, .bytes (mkB b) t2]) ∈ news) (hm2 : (D2, tupO [.bytes (mkB c) t3, .bytes (mkB d) t4]) ∈ news) (hu : A.units < cLine) (h1 : Small a) (h2 : Small b) (h3 : Small c) (h4 : Small d) (h : Q (.bool (decide (¬ (a = c ∧ b = d)))) s) :
    wpAny (model prog w) A (compareOp .NotEq (.ref D) (.ref D2)) Q E s := pair_ne N hm hm2 hu (eqAt_B h1 h3) (eqAt_B h2 h4) h
end
theorem Small.tk {a : List Nat} (h : Small a) (k : Nat) : Small (a.take k) := h.sub fun _ hc => List.mem_of_mem_take hc
theorem Small.dr {a : List Nat} (h : Small a) (k : Nat) : Small (a.drop k) := h.sub fun _ hc => List.mem_of_mem_drop hc
theorem range_n (n : Nat) : Builtin.Range.rangeSize 0 (n : Int) 1 = (n : Int) := by
  unfold Builtin.Range.rangeSize
  rw [if_pos (by decide)]
  rw [Int.ediv_one]
  split <;> omega
theorem range_small (n : Nat) (h : n ≤ 16384) : Builtin.Range.small 0 (n : Int) 1 = true := by
  unfold Builtin.Range.small
  rw [range_n]
  simp [Builtin.Range.rangeFitsLong]
  omega
theorem int_bne (a b : Int) : (a != b) = decide (a ≠ b) := by by_cases h : a = b <;> simp [h]
theorem nat46 (n : Nat) : decide ((n : Int) ≠ 46) = (n != 46) := by
  by_cases h : n = 46
  · subst h; rfl
  · have : (n : Int) ≠ 46 := by omega
    simp [h, this]
theorem nat4647 (n : Nat) : decide ((n : Int) ≠ 46 ∧ (n : Int) ≠ 47) = decide (n ≠ 46 ∧ n ≠ 47) := by
  have e : ((n : Int) ≠ 46 ∧ (n : Int) ≠ 47) ↔ (n ≠ 46 ∧ n ≠ 47) := by omega
  exact decide_eq_decide.mpr e
theorem IN_ne {l : List Nat} (h : decide (IN l = []) = false) : l ≠ [] := fun e => by rw [e] at h; cases h
theorem IN_eq {l : List Nat} (h : ¬ (decide (IN l = []) = false)) : l = [] := by
  by_cases hl : IN l = []
  · exact List.map_eq_nil_iff.mp hl
  · exact absurd (decide_eq_false hl) h
theorem IN_eq' {l : List Nat} (h : decide (IN l = []) = true) : l = [] := List.map_eq_nil_iff.mp (of_decide_eq_true h)
/-- no sign above the last one -/
noncomputable def Cps (l : List Nat) : Prop := ∀ c ∈ l, c ≤ 1114111
theorem Cps.sub {a b : List Nat} (h : Cps a) (hb : ∀ c ∈ b, c ∈ a) : Cps b := fun c hc => h c (hb c hc)
theorem Cps.append {a b : List Nat} (ha : Cps a) (hb : Cps b) : Cps (a ++ b) := fun c hc => (List.mem_append.mp hc).elim (ha c) (hb c)
theorem Cps.tk {a : List Nat} (h : Cps a) (k : Nat) : Cps (a.take k) := h.sub fun _ hc => List.mem_of_mem_take hc
theorem Cps.dr {a : List Nat} (h : Cps a) (k : Nat) : Cps (a.drop k) := h.sub fun _ hc => List.mem_of_mem_drop hc
theorem Cps.tl {a : List Nat} (h : Cps a) : Cps (tlL a) := h.sub fun _ hc => List.mem_of_mem_drop hc
end Mine
namespace Mine
/-! the plain law of 01 -/
abbrev isCut (l : List Nat) (k : Nat) : Prop := l.getD k 0 = 46 ∧ 46 ∉ l.drop (k + 1) ∧ 47 ∉ l.drop (k + 1) ∧ (tlL (l.take k)).filter (· != 46) ≠ []
noncomputable def cutsL (l : List Nat) (i : Nat) : List Nat := (List.range i).filter fun k => decide (isCut l k)
theorem cutsL_yes {l : List Nat} {i : Nat} (h : isCut l i) : cutsL l (i + 1) = cutsL l i ++ [i] := by
  unfold cutsL; rw [List.range_succ, List.filter_append, List.filter_cons, if_pos (decide_eq_true h)]; rfl
theorem cutsL_no {l : List Nat} {i : Nat} (h : ¬ isCut l i) : cutsL l (i + 1) = cutsL l i := by
  unfold cutsL; rw [List.range_succ, List.filter_append, List.filter_cons, if_neg (by rw [decide_eq_false h]; decide)]; simp
theorem cutsL_len (l : List Nat) (i : Nat) : (cutsL l i).length ≤ i := by unfold cutsL; exact Nat.le_trans (List.length_filter_le _ _) (by simp)
theorem notin_drop {l : List Nat} {c k : Nat} (h : c ∉ l.drop k) : ∀ i, k ≤ i → l[i]? ≠ some c := by
  intro i hi e
  apply h
  have : (l.drop k)[i - k]? = some c := by rw [List.getElem?_drop, show k + (i - k) = i from by omega, e]
  exact List.mem_of_getElem? this
theorem in_drop {l : List Nat} {c k : Nat} (h : c ∈ l.drop k) : ∃ i, k ≤ i ∧ l[i]? = some c := by
  obtain ⟨j, hj⟩ := List.mem_iff_getElem?.mp h
  rw [List.getElem?_drop] at hj
  exact ⟨_, Nat.le_add_right _ _, hj⟩
theorem cutL_take {l : List Nat} {c k : Nat} (h : cutL c l ≤ k) : cutL c (l.take k) = cutL c l := by
  symm
  apply cutL_unique
  · intro h0
    rw [List.getElem?_take, if_pos (by omega)]
    exact cutL_pos c l h0
  · intro i hi
    rw [List.getElem?_take]
    split
    · exact cutL_behind c l i hi
    · simp
theorem cutL_append {a b : List Nat} {c : Nat} (h : c ∉ b) : cutL c (a ++ b) = cutL c a := by
  symm
  apply cutL_unique
  · intro h0
    rw [List.getElem?_append_left (by have := cutL_le c a; omega)]
    exact cutL_pos c a h0
  · intro i hi
    rcases Nat.lt_or_ge i a.length with h1 | h1
    · rw [List.getElem?_append_left h1]; exact cutL_behind c a i hi
    · rw [List.getElem?_append_right h1]
      exact fun e => h (List.mem_of_getElem? e)
theorem filter_any (l : List Nat) : l.filter (· != 46) ≠ [] ↔ l.any (fun c => c != 46) = true := by
  rw [ne_eq, List.filter_eq_nil_iff, List.any_eq_true]
  constructor
  · intro h
    by_cases hx : ∃ x ∈ l, (x != 46) = true
    · exact hx
    · exact absurd (fun a ha hb => hx ⟨a, ha, hb⟩) h
  · rintro ⟨x, hx, h1⟩ h2
    exact h2 x hx h1
theorem cut_dot {l : List Nat} {k : Nat} (h : isCut l k) : k + 1 = cutL 46 l ∧ cutL 47 l ≤ k ∧ ((l.take k).drop (cutL 47 l)).any (fun c => c != 46) = true := by
  obtain ⟨h1, h2, h3, h4⟩ := h
  have h0 : l[k]? = some 46 := by
    rw [List.getD_eq_getElem?_getD] at h1
    cases e : l[k]? with
    | none => rw [e] at h1; cases h1
    | some x => rw [e] at h1; simp at h1; rw [h1]
  have e1 : k + 1 = cutL 46 l := cutL_unique (fun _ => h0) (notin_drop h2)
  have e2 : cutL 47 l ≤ k := by
    rcases Nat.lt_or_ge k (cutL 47 l) with hk | hk
    · have hp := cutL_pos 47 l (by omega)
      rcases Nat.eq_or_lt_of_le (show k ≤ cutL 47 l - 1 by omega) with e | e
      · rw [← e, h0] at hp; simp at hp
      · exact absurd hp (notin_drop h3 _ (by omega))
    · exact hk
  refine ⟨e1, e2, ?_⟩
  have := (filter_any _).mp h4
  unfold tlL at this
  rw [cutL_take e2] at this
  exact this
theorem cut_yes {l : List Nat} (h : ((l.take (cutL 46 l - 1)).drop (cutL 47 l)).any (fun c => c != 46) = true) : 0 < cutL 46 l ∧ cutL 47 l ≤ cutL 46 l - 1 ∧ isCut l (cutL 46 l - 1) := by
  have hne : ((l.take (cutL 46 l - 1)).drop (cutL 47 l)) ≠ [] := by intro e; rw [e] at h; cases h
  have hlt : cutL 47 l < cutL 46 l - 1 := by
    rcases Nat.lt_or_ge (cutL 47 l) (cutL 46 l - 1) with h1 | h1
    · exact h1
    · exact absurd (List.drop_of_length_le (by rw [List.length_take]; omega)) hne
  have hp := cutL_pos 46 l (by omega)
  refine ⟨by omega, by omega, ?_, ?_, ?_, ?_⟩
  · rw [List.getD_eq_getElem?_getD, hp]; rfl
  · intro hm
    obtain ⟨i, hi, e⟩ := in_drop hm
    exact cutL_behind 46 l i (by omega) e
  · intro hm
    obtain ⟨i, hi, e⟩ := in_drop hm
    exact cutL_behind 47 l i (by omega) e
  · refine (filter_any _).mpr ?_
    unfold tlL
    rw [cutL_take (by omega)]
    exact h
theorem extK_le (l : List Nat) : extK l ≤ l.length := by
  unfold extK
  have := cutL_le 46 l
  split <;> omega
theorem cut_ext {l : List Nat} {k : Nat} (h : isCut l k) : k = extK l := by
  obtain ⟨h1, h2, h3⟩ := cut_dot h
  have e : k = cutL 46 l - 1 := by omega
  unfold extK
  rw [← e, h3, if_pos rfl]
theorem min_ext {l : List Nat} {M : Nat} (h1 : M ∈ cutsL l l.length ++ [l.length]) (h2 : ∀ a, a ∈ cutsL l l.length ++ [l.length] → M ≤ a) : M = extK l := by
  rcases List.mem_append.mp h1 with h | h
  · exact cut_ext (of_decide_eq_true (List.mem_filter.mp h).2)
  · rw [List.mem_singleton] at h
    have hx := extK_le l
    rcases Nat.eq_or_lt_of_le hx with e | e
    · omega
    · cases hh : ((l.take (cutL 46 l - 1)).drop (cutL 47 l)).any (fun c => c != 46) with
      | false => exact absurd (ext_no hh) (by omega)
      | true =>
        obtain ⟨h3, _, h4⟩ := cut_yes hh
        have := h2 (cutL 46 l - 1) (List.mem_append_left _ (List.mem_filter.mpr ⟨List.mem_range.mpr (by have := cutL_le 46 l; omega), decide_eq_true h4⟩))
        have := cut_ext h4
        omega
theorem cut_le_ext (l : List Nat) : cutL 47 l ≤ extK l := by
  unfold extK
  split
  · rename_i h; exact (cut_yes h).2.1
  · exact cutL_le 47 l
noncomputable def endL (more : List Nat) : List Nat := [46] ++ more.filter fun c => decide (c ≠ 46 ∧ c ≠ 47)
theorem endL_slash (more : List Nat) : 47 ∉ endL more := by
  unfold endL; simp
theorem tl_other (l more : List Nat) : tlL (l.take (extK l) ++ endL more) = tlL (l.take (extK l)) ++ endL more := by
  unfold tlL
  rw [cutL_append (endL_slash more), List.drop_append_of_le_length (cutL_le 47 _)]
theorem head_other (l more : List Nat) : headL (l.take (extK l) ++ endL more) = headL l := by
  unfold headL
  rw [cutL_append (endL_slash more), cutL_take (cut_le_ext l), List.take_append_of_le_length (by rw [List.length_take]; have := cut_le_ext l; have := extK_le l; have := cutL_le 47 l; omega), List.take_take, Nat.min_eq_left (cut_le_ext l)]
theorem cut46_other (a more : List Nat) : cutL 46 (a ++ endL more) = a.length + 1 := by
  symm
  apply cutL_unique
  · intro _
    rw [Nat.add_sub_cancel, List.getElem?_append_right (Nat.le_refl _), Nat.sub_self]; rfl
  · intro i hi
    rw [List.getElem?_append_right (by omega)]
    unfold endL
    rw [List.getElem?_append_right (by simp; omega)]
    intro e
    have := (List.mem_filter.mp (List.mem_of_getElem? e)).2
    simp at this
theorem ext_other (a more : List Nat) : extK (a ++ endL more) = if (tlL a).filter (· != 46) ≠ [] then a.length else (a ++ endL more).length := by
  unfold extK
  rw [cut46_other, Nat.add_sub_cancel, cutL_append (endL_slash more), List.take_append_of_le_length (Nat.le_refl _), List.take_length]
  by_cases h : (a.drop (cutL 47 a)).any (fun c => c != 46) = true
  · rw [if_pos h, if_pos (show (tlL a).filter (· != 46) ≠ [] from (filter_any _).mpr h)]
  · rw [if_neg h, if_neg (show ¬ (tlL a).filter (· != 46) ≠ [] from fun x => h ((filter_any _).mp x))]
theorem other_sub {l more : List Nat} {P : Nat → Prop} {a : List Nat} (h1 : ∀ c ∈ l, P c) (h2 : ∀ c ∈ more, P c) (h3 : P 46) (ha : ∀ c ∈ a, c ∈ l) : ∀ c ∈ a ++ ([46] ++ more.filter fun c => decide (c ≠ 46 ∧ c ≠ 47)), P c := by
  intro c hc
  rcases List.mem_append.mp hc with hc | hc
  · exact h1 c (ha c hc)
  · rcases List.mem_append.mp hc with hc | hc
    · rw [List.mem_singleton.mp hc]; exact h3
    · exact h2 c (List.mem_filter.mp hc).1
theorem ext_fin1 {a more : List Nat} (h : (tlL a).filter (· != 46) ≠ []) : (a ++ endL more).take (extK (a ++ endL more)) = pySl (a ++ endL more) none (some (a.length : Int)) ∧ (a ++ endL more).drop (extK (a ++ endL more)) = pySl (a ++ endL more) (some (a.length : Int)) none := by
  rw [ext_other, if_pos h, pySl_to, pySl_from]; exact ⟨rfl, rfl⟩
theorem ext_fin2 {a more : List Nat} (h : ¬ (tlL a).filter (· != 46) ≠ []) : (a ++ endL more).take (extK (a ++ endL more)) = pySl (a ++ endL more) none (some ((a ++ endL more).length : Int)) ∧ (a ++ endL more).drop (extK (a ++ endL more)) = pySl (a ++ endL more) (some ((a ++ endL more).length : Int)) none := by
  rw [ext_other, if_neg h, pySl_to, pySl_from]; exact ⟨rfl, rfl⟩
theorem ext_fin3 (l : List Nat) : l.take (extK l) = l.take (extK l) ∧ l.drop (extK l) = l.drop (l.take (extK l)).length := by
  rw [List.length_take, Nat.min_eq_left (extK_le l)]; exact ⟨rfl, rfl⟩
noncomputable def by8 (c : Nat) : Nat := (((c : Int) - 1).fmod 255 + 1).toNat
theorem by8_bd (c : Nat) : 0 ≤ ((c : Int) - 1).fmod 255 ∧ ((c : Int) - 1).fmod 255 < 255 := ⟨Int.fmod_nonneg_of_pos _ (by decide), Int.fmod_lt_of_pos _ (by decide)⟩
theorem by8_small (l : List Nat) : Small (l.map by8) := by
  intro c hc
  obtain ⟨x, _, rfl⟩ := List.mem_map.mp hc
  have := by8_bd x
  unfold by8; omega
theorem by8_IN (l : List Nat) : ((IN l).filter fun _ => true).map (fun n => (n - 1).fmod 255 + 1) = IN (l.map by8) := by
  have e : (IN l).filter (fun _ => true) = IN l := List.filter_eq_self.mpr fun _ _ => rfl
  rw [e]
  unfold IN
  rw [List.map_map, List.map_map]
  apply List.map_congr_left
  intro x _
  have := by8_bd x
  show ((x : Int) - 1).fmod 255 + 1 = ((by8 x : Nat) : Int)
  unfold by8; omega
end Mine
namespace Mine
/-! one value for both kinds: false a text, true bytes -/
noncomputable def valK : Bool → List Nat → Tok → Value
  | false, l, t => .str (mkS l) t
  | true, l, t => .bytes (mkB l) t
noncomputable def kindI : Bool → Int
  | false => 0
  | true => 1
noncomputable def limK : Bool → Nat
  | false => 1114111
  | true => 255
noncomputable def OkK (b : Bool) (l : List Nat) : Prop := ∀ c ∈ l, c ≤ limK b
theorem OkK.sub {b : Bool} {a c : List Nat} (h : OkK b a) (hc : ∀ x ∈ c, x ∈ a) : OkK b c := fun x hx => h x (hc x hx)
theorem OkK.cps {a : List Nat} (h : OkK false a) : Cps a := h
theorem OkK.small {a : List Nat} (h : OkK true a) : Small a := fun c hc => Nat.lt_succ_of_le (h c hc)
theorem OkK.sl {b : Bool} {a : List Nat} (h : OkK b a) (lo hi : Option Int) : OkK b (pySl a lo hi) := h.sub fun _ => pySl_mem
theorem OkK.head {b : Bool} {l : List Nat} (h : OkK b l) : OkK b (headL l) := h.sub fun _ => headL_mem
theorem OkK.tl {b : Bool} {l : List Nat} (h : OkK b l) : OkK b (tlL l) := h.sub fun _ hc => List.mem_of_mem_drop hc
theorem OkK.tk {b : Bool} {a : List Nat} (h : OkK b a) (k : Nat) : OkK b (a.take k) := h.sub fun _ hc => List.mem_of_mem_take hc
theorem OkK.dr {b : Bool} {a : List Nat} (h : OkK b a) (k : Nat) : OkK b (a.drop k) := h.sub fun _ hc => List.mem_of_mem_drop hc
theorem lim46 (b : Bool) : 46 ≤ limK b := by cases b <;> decide
section
variable {prog : Program} {w : World} {A : Around} {E : Value → Shared → Prop} {s : Shared} {h₀ : Heap} {L D D2 : Addr} {news : List (Addr × Obj)} {k : Bool} {a b c d : List Nat} {t1 t2 t3 t4 : Tok} {Q : Value → Shared → Prop}
theorem pair_eqK (N : News h₀ L s.heap news) (hm : (D, tupO [valK k a t1, valK k b t2]) ∈ news) (hm2 : (D2, tupO [valK k c t3, valK k d t4]) ∈ news) (hu : A.units < cLine) (h1 : OkK k a) (h2 : OkK k b) (h3 : OkK k c) (h4 : OkK k d) (h : Q (.bool (decide (a = c ∧ b = d))) s) :
    wpAny (model prog w) A (compareOp .Eq (.ref D) (.ref D2)) Q E s := by
  cases k
  · exact pair_eqS N hm hm2 hu h
  · exact pair_eqB N hm hm2 hu h1.small h2.small h3.small h4.small h
theorem pair_neK (N : News h₀ L s.heap news) (hm : (D, tupO [valK k a t1, valK k b t2]) ∈ news) (hm2 : (D2, tupO [valK k c t3, valK k d t4]) ∈ news) (hu : A.units < cLine) (h1 : OkK k a) (h2 : OkK k b) (h3 : OkK k c) (h4 : OkK k d) (h : Q (.bool (decide (¬ (a = c ∧ b = d)))) s) :
    wpAny (model prog w) A (compareOp .NotEq (.ref D) (.ref D2)) Q E s := by
  cases k
  · exact pair_neS N hm hm2 hu h
  · exact pair_neB N hm hm2 hu h1.small h2.small h3.small h4.small h
theorem slice_K2 {l : List Nat} {t : Tok} {fm : PySem.Str → Option Value} {vl vu : Value} {lo hi : Option Int} {value slice : PySem.Expr} (hF : Fr h₀ L s.heap fm) (hN : News h₀ L s.heap news) (hl : IsPart vl lo) (hu : IsPart vu hi) (hz : l.length ≤ 4096)
    (h : ∀ h' t' n, Fr h₀ L h' fm → News h₀ L h' news → (pySl l lo hi).length ≤ l.length → Q (valK k (pySl l lo hi) t') { s with heap := h', toks := n })
    (hs : subscripted slice false (valK k l t) (.ref s.heap.objs.size) = operate [.ref s.heap.objs.size, valK k l t] (getItem (valK k l t) (.ref s.heap.objs.size)))
    (ht : ∀ r, letTemporaryGo value (valK k l t) r = pure ()) :
    wpAny (model prog w) A (subscriptTail value slice (valK k l t) (.ref s.heap.objs.size)) Q E { s with heap := s.heap.push { cls := .type "slice", data := .fields #[vl, vu, .none] } } := by
  cases k
  · exact slice_S hF hN hl hu hz h hs ht
  · exact slice_B hF hN hl hu hz h hs ht
end
end Mine
namespace Mine
set_option compiler.extract_closed false
set_option linter.all false
local macro_rules | `(tactic| walk_at "kk lit2") => `(tactic| (first | with_reducible rfl | with_reducible exact lit_slash | with_reducible exact lit_dot))
local macro_rules | `(tactic| walk_at "kk LITS") => `(tactic| (first | with_reducible rfl | with_reducible exact lit_slash | with_reducible exact lit_dot | with_reducible exact lit_dd | with_reducible exact lit_nil))
local macro_rules | `(tactic| walk_at "kk litsB") => `(tactic| (first | with_reducible rfl | with_reducible exact lit_slashB | with_reducible exact lit_dotB | with_reducible exact lit_ddB | with_reducible exact lit_nilB))
local macro_rules | `(tactic| walk_at "kk smB") => `(tactic| (first | with_reducible assumption | exact Small.sl (by with_reducible assumption) _ _ | (unfold Small; decide)))
local macro_rules | `(tactic| walk_at "kk SMALL") => `(tactic| (first | with_reducible assumption | with_reducible exact Small.sl (by with_reducible assumption) _ _ | with_reducible exact Small.head (by with_reducible assumption) | with_reducible exact Small.tl (by with_reducible assumption) | with_reducible exact Small.nil | with_reducible exact Small.one (by decide) | (unfold Small; decide)))
local macro_rules | `(tactic| walk_at "kk MEM") => `(tactic| ((repeat (first | (with_reducible assumption) | (with_reducible exact List.mem_cons_self ..) | (with_reducible refine List.mem_cons_of_mem _ ?_)))))
local macro_rules | `(tactic| walk_at "kk LNF") => `(tactic| (first | omega | ((simp only [List.length_append, List.length_take, List.length_drop, List.length_cons, List.length_nil]); omega)))
local macro_rules | `(tactic| walk_at "kk INF") => `(tactic| (first | with_reducible assumption | exact IntsAre.one' _ _ | exact IntsAre.one46 _ | exact IntsAre.nil'))
local macro_rules | `(tactic| walk_at "kk nat") => `(tactic| (first | with_reducible rfl | exact succ_cast _ | rfl))
local macro_rules | `(tactic| walk_at "kk OKS") => `(tactic| (first | with_reducible assumption | with_reducible exact OkK.sl (by with_reducible assumption) _ _ | with_reducible exact OkK.head (by with_reducible assumption) | with_reducible exact OkK.tl (by with_reducible assumption) | with_reducible exact OkK.tk (by with_reducible assumption) _ | with_reducible exact OkK.dr (by with_reducible assumption) _))
/-! the walk's own lines -/
local macro_rules | `(tactic| k_room) => `(tactic| ktr_room)
local macro_rules | `(tactic| k_units) => `(tactic| ktr_units)
local macro_rules | `(tactic| walk_at "call builtin:issubclass") => `(tactic| (k_here; first
  | ((with_reducible show wpAny _ _ (call (Value.builtin _) [Value.type "str", Value.ref _]) _ _ _); refine issub_str (News.get (by assumption) (by k_mem)) ?_; intro tk9)
  | ((with_reducible show wpAny _ _ (call (Value.builtin _) [Value.type "bytes", Value.ref _]) _ _ _); refine issub_bytes (News.get (by assumption) (by k_mem)) ?_; intro tk9)))
local macro_rules | `(tactic| walk_at "getMethod bytes") => `(tactic| (k_here; first | with_reducible refine meth_rfind ?_ | with_reducible refine meth_rstrip ?_ | with_reducible refine meth_split ?_ | with_reducible refine meth_join ?_ | with_reducible refine meth_startswith ?_ | with_reducible refine meth_endswith ?_))
local macro_rules | `(tactic| walk_at "call builtin:str.rfind") => `(tactic| (k_here; (with_reducible show wpAny _ _ (call (Value.builtin _) [Value.str (mkS _) _, Value.str _ _]) _ _ _); k_dflt (refine' rfind_S ?hy ?_; (case hy => walk_at "kk lit2"); k_whole)))
local macro_rules | `(tactic| walk_at "call builtin:str.rstrip") => `(tactic| (k_here; (with_reducible show wpAny _ _ (call (Value.builtin _) [Value.str (mkS _) _, Value.str _ _]) _ _ _); k_dflt (refine' rstrip_S ?hy ?hz ?_; (case hy => walk_at "kk lit2"); (case hz => omega); k_whole); intro t' tk' hlen'))
local macro_rules | `(tactic| walk_at "call builtin:bytes.rfind") => `(tactic| (k_here; (with_reducible show wpAny _ _ (call (Value.builtin _) [Value.bytes (mkB _) _, Value.bytes _ _]) _ _ _); k_dflt (refine' rfind_B ?hs ?hy ?hc ?_; (case hs => with_reducible assumption); (case hy => exact rfl); (case hc => decide); k_whole)))
local macro_rules | `(tactic| walk_at "call builtin:bytes.rstrip") => `(tactic| (k_here; (with_reducible show wpAny _ _ (call (Value.builtin _) [Value.bytes (mkB _) _, Value.bytes _ _]) _ _ _); k_dflt (refine' rstrip_B ?hs ?hy ?hc ?hz ?_; (case hs => first | with_reducible assumption | exact Small.sl (by with_reducible assumption) _ _); (case hy => exact rfl); (case hc => decide); (case hz => omega); k_whole); intro t' tk' hlen'))
local macro_rules | `(tactic| walk_at "call builtin:len") => `(tactic| (k_here; first
  | ((with_reducible show wpAny _ _ (call (Value.builtin "len") [Value.str (mkS _) _]) _ _ _); k_dflt (refine' len_S ?hz ?_; (case hz => omega); k_whole))
  | ((with_reducible show wpAny _ _ (call (Value.builtin "len") [Value.bytes (mkB _) _]) _ _ _); k_dflt (refine' len_B ?hz ?_; (case hz => omega); k_whole))))
local macro_rules | `(tactic| walk_at "truthy str") => `(tactic| (k_here; (with_reducible show wpAny _ _ (truthy (Value.str (mkS _) _)) _ _ _); k_dflt (refine' truthy_S ?hz ?_; (case hz => omega); k_whole)))
local macro_rules | `(tactic| walk_at "truthy bytes") => `(tactic| (k_here; (with_reducible show wpAny _ _ (truthy (Value.bytes (mkB _) _)) _ _ _); k_dflt (refine' truthy_B ?hz ?_; (case hz => omega); k_whole)))
local macro_rules | `(tactic| walk_at "compareOp NotEq str str") => `(tactic| (k_here; k_dflt (refine' ne_S ?hx ?hy ?_; (case hx => walk_at "kk LITS"); (case hy => walk_at "kk LITS"); k_whole)))
local macro_rules | `(tactic| walk_at "compareOp NotEq bytes bytes") => `(tactic| (k_here; k_dflt (refine' ne_B ?hx ?hy ?h1 ?h2 ?_; (case hx => walk_at "kk litsB"); (case hy => walk_at "kk litsB"); (case h1 => first | with_reducible assumption | exact Small.sl (by with_reducible assumption) _ _ | (unfold Small; decide) | exact Small.rep (by decide) _); (case h2 => first | with_reducible assumption | exact Small.sl (by with_reducible assumption) _ _ | (unfold Small; decide) | exact Small.rep (by decide) _); k_whole)))
local macro_rules | `(tactic| walk_at "binaryOp Mult str int") => `(tactic| (k_here; (with_reducible show wpAny _ _ (binaryOp Operator.Mult (Value.str _ _) (Value.int (Nat.cast _) _)) _ _ _); k_dflt (refine' mul_S ?hy ?hz ?_; (case hy => walk_at "kk lit2"); (case hz => omega); k_whole); intro t' tk'))
local macro_rules | `(tactic| walk_at "binaryOp Mult bytes int") => `(tactic| (k_here; (with_reducible show wpAny _ _ (binaryOp Operator.Mult (Value.bytes _ _) (Value.int (Nat.cast _) _)) _ _ _); k_dflt (refine' mul_B ?hy ?hz ?_; (case hy => exact rfl); (case hz => omega); k_whole); intro t' tk'))
local macro_rules | `(tactic| walk_at "subscriptTail Name Slice str ref") => `(tactic| (k_here; (with_reducible show wpAny _ _ (subscriptTail _ (Expr.Slice _ _ none _) (Value.str (mkS _) _) (Value.ref _)) _ _ _); (with_reducible rename Fr _ _ _ _ => F'); (with_reducible rename News _ _ _ _ => N'); k_dflt (refine' slice_S (s := ⟨_, _, _, _, _⟩) F' N' ?h1 ?h2 ?hz ?_; (case h1 => constructor); (case h2 => constructor); (case hz => omega); k_whole); intro h' t' tk' F' N' hlen'; (try k_sweep)))
local macro_rules | `(tactic| walk_at "subscriptTail Name Slice bytes ref") => `(tactic| (k_here; (with_reducible show wpAny _ _ (subscriptTail _ (Expr.Slice _ _ none _) (Value.bytes (mkB _) _) (Value.ref _)) _ _ _); (with_reducible rename Fr _ _ _ _ => F'); (with_reducible rename News _ _ _ _ => N'); k_dflt (refine' slice_B (s := ⟨_, _, _, _, _⟩) F' N' ?h1 ?h2 ?hz ?_; (case h1 => constructor); (case h2 => constructor); (case hz => omega); k_whole); intro h' t' tk' F' N' hlen'; (try k_sweep)))
local macro_rules | `(tactic| walk_at "call type:type") => `(tactic| (k_here; (with_reducible show wpAny _ _ (call (Value.type "type") [Value.bytes _ _]) _ _ _); k_dflt (refine' call_type_of (Tx := "bytes") (typeIs_bytes _ _ _) ?hb ?_; (case hb => decide); k_whole)))
local macro_rules | `(tactic| walk_at "exec While Compare cons nil") => `(tactic| refine Stop.of ?_)
local macro_rules | `(tactic| walk_at "exec For Name Name cons nil") => `(tactic| refine Stop.of ?_)
local macro_rules | `(tactic| walk_at "exec For Name Call cons nil") => `(tactic| refine Stop.of ?_)
local macro_rules | `(tactic| k_all) => `(tactic| first | exact off_mem (by assumption) | exact off_mem (And.right (by assumption)) | exact off_mem (And.right (And.right (by assumption))))
local macro_rules | `(tactic| walk_at "eval ListComp") => `(tactic| refine Stop.of ?_)
local macro_rules | `(tactic| walk_at "call builtin:chr") => `(tactic| (k_here; (with_reducible show wpAny _ _ (call (Value.builtin "chr") [Value.int _ _]) _ _ _); k_dflt (refine' chr_of_range ?h0 ?h1 ?_; (case h0 => omega); (case h1 => omega); k_whole)))
local macro_rules | `(tactic| walk_at "call builtin:str.join") => `(tactic| refine Stop.of ?_)
local macro_rules | `(tactic| walk_at "call builtin:list.append") => `(tactic| (k_here; (with_reducible show wpAny _ _ (call (Value.builtin _) [Value.ref _, _]) _ _ _); k_dflt (refine' append_L ?k1 ?k2 ?k3 ?z ?_; (case k1 => k_asm); (case k2 => k_asm); (case k3 => k_upd); (case z => first | omega | ((try simp only [List.length_append, List.length_cons, List.length_nil]); omega)); k_whole); intro h' F' N'; (try k_sweep)))
local macro_rules | `(tactic| wrow_close) => `(tactic| first
  | ((with_reducible show KswEnd _ _ _ _ _ _ _ _ _ _ _ _); refine' stopG ?_)
  | ((with_reducible show TurnEnd _ _ _ _ _ _ _ _ _ _ _ _); refine' stopG ?_)
  | ((with_reducible show TurnPost _ _ _ _ _ _ _ _ _ _ _ _ _ _); dsimp only [TurnPost])
  | (w_end; refine' goodStop ?_))
local macro_rules | `(tactic| kc_close) => `(tactic| (kc_bool; refine' goodStop ?_))
set_option maxHeartbeats 100000000 in
open_top hd for PySem.Challenge.rw_ko0129_01
local macro_rules | `(tactic| walk_at "kk s") => `(tactic| refine Stop.of ?_)
local macro_rules | `(tactic| walk_at "pyIter ref") => `(tactic| walk_at "kk s")
theorem filled1 : (PySem.Challenge.rw_ko0129_01.prog, Mine.hd.heap_39) = (PySem.Challenge.rw_ko0129_01.prog, Mine.hd.heap_39) := by
  k_fill
  rfl
set_option maxRecDepth 100000 in
set_option maxHeartbeats 100000000 in
theorem fspath_S (news : List (Addr × Obj)) (l : List Nat) (t : Tok) : Spec PySem.Challenge.rw_ko0129_01.row.prog Mine.hd.view_39 Mine.hd.heap_39 101 4 20 [.str (mkS l) t] news (fun led v => led = [] ∧ v = .str (mkS l) t) := by
  w_top off
  unfold Spec
  intros
  rename_i hret
  refine wpAny_call ?_
  k_dflt cell_enter
  k_steps
  all_goals exact hret [] _ _ _ ⟨rfl, rfl⟩ no_led (by k_asm) (cb_drop (by assumption) (by intro p hp; k_ownIn))
local macro_rules | `(tactic| walk_at "call ref") => `(tactic| (k_here; (with_reducible show wpAny _ _ (call (Value.ref 101) [Value.str (mkS _) _]) _ _ _); k_dflt (refine' Spec.use2 (by k_asm) (by k_asm) (by k_asm) (by k_asm) (by k_asm) (by first | exact rfl | assumption) (fspath_S _ _ _) (by ktr_room) (by ktr_units) ?_; k_whole); intro led' v' h' tk' hR' hfr' F' N'; (obtain ⟨hL', hV'⟩ := hR'); subst hL' hV'; (try simp only [List.nil_append, List.cons_append] at F' N'); (try clear hfr'); k_sweep))
set_option maxRecDepth 100000 in
set_option maxHeartbeats 100000000 in
theorem getsep_S (news : List (Addr × Obj)) (l : List Nat) (t : Tok) : Spec PySem.Challenge.rw_ko0129_01.row.prog Mine.hd.view_39 Mine.hd.heap_39 115 4 20 [.str (mkS l) t] news (fun led v => led = [] ∧ ∃ t, v = .str (mkS [47]) t) := by
  w_top off
  unfold Spec
  intros
  rename_i hret
  refine wpAny_call ?_
  k_dflt cell_enter
  k_steps
  all_goals exact hret [] _ _ _ ⟨rfl, _, by rw [← lit_slash]⟩ no_led (by k_asm) (cb_drop (by assumption) (by intro p hp; k_ownIn))
local macro_rules | `(tactic| walk_at "call ref") => `(tactic| (k_here; (with_reducible show wpAny _ _ (call (Value.ref 115) [Value.str (mkS _) _]) _ _ _); k_dflt (refine' Spec.use2 (by k_asm) (by k_asm) (by k_asm) (by k_asm) (by k_asm) (by first | exact rfl | assumption) (getsep_S _ _ _) (by ktr_room) (by ktr_units) ?_; k_whole); intro led' v' h' tk' hR' hfr' F' N'; (obtain ⟨hL', t', hV'⟩ := hR'); subst hL' hV'; (try simp only [List.nil_append, List.cons_append] at F' N'); (try clear hfr'); k_sweep))
set_option maxRecDepth 100000 in
set_option maxHeartbeats 100000000 in
theorem fspath_B (news : List (Addr × Obj)) (l : List Nat) (t : Tok) : Spec PySem.Challenge.rw_ko0129_01.row.prog Mine.hd.view_39 Mine.hd.heap_39 101 4 20 [.bytes (mkB l) t] news (fun led v => led = [] ∧ v = .bytes (mkB l) t) := by
  w_top off
  unfold Spec
  intros
  rename_i hret
  refine wpAny_call ?_
  k_dflt cell_enter
  k_steps
  all_goals exact hret [] _ _ _ ⟨rfl, rfl⟩ no_led (by k_asm) (cb_drop (by assumption) (by intro p hp; k_ownIn))
local macro_rules | `(tactic| walk_at "call ref") => `(tactic| (k_here; (with_reducible show wpAny _ _ (call (Value.ref 101) [Value.bytes (mkB _) _]) _ _ _); k_dflt (refine' Spec.use2 (by k_asm) (by k_asm) (by k_asm) (by k_asm) (by k_asm) (by first | exact rfl | assumption) (fspath_B _ _ _) (by ktr_room) (by ktr_units) ?_; k_whole); intro led' v' h' tk' hR' hfr' F' N'; (obtain ⟨hL', hV'⟩ := hR'); subst hL' hV'; (try simp only [List.nil_append, List.cons_append] at F' N'); (try clear hfr'); k_sweep))
set_option maxRecDepth 100000 in
set_option maxHeartbeats 100000000 in
theorem getsep_B (news : List (Addr × Obj)) (l : List Nat) (t : Tok) : Spec PySem.Challenge.rw_ko0129_01.row.prog Mine.hd.view_39 Mine.hd.heap_39 115 4 20 [.bytes (mkB l) t] news (fun led v => led = [] ∧ ∃ t, v = .bytes (mkB [47]) t) := by
  w_top off
  unfold Spec
  intros
  rename_i hret
  refine wpAny_call ?_
  k_dflt cell_enter
  k_steps
  all_goals exact hret [] _ _ _ ⟨rfl, _, rfl⟩ no_led (by k_asm) (cb_drop (by assumption) (by intro p hp; k_ownIn))
local macro_rules | `(tactic| walk_at "call ref") => `(tactic| (k_here; (with_reducible show wpAny _ _ (call (Value.ref 115) [Value.bytes (mkB _) _]) _ _ _); k_dflt (refine' Spec.use2 (by k_asm) (by k_asm) (by k_asm) (by k_asm) (by k_asm) (by first | exact rfl | assumption) (getsep_B _ _ _) (by ktr_room) (by ktr_units) ?_; k_whole); intro led' v' h' tk' hR' hfr' F' N'; (obtain ⟨hL', t', hV'⟩ := hR'); subst hL' hV'; (try simp only [List.nil_append, List.cons_append] at F' N'); (try clear hfr'); k_sweep))
set_option maxRecDepth 100000 in
set_option maxHeartbeats 100000000 in
theorem split_S (news : List (Addr × Obj)) (l : List Nat) (t : Tok) (hz : l.length ≤ 4096) : Spec PySem.Challenge.rw_ko0129_01.row.prog Mine.hd.view_39 Mine.hd.heap_39 122 8 60 [.str (mkS l) t] news (fun led v => ∃ (q : Addr) (t1 : Tok) (t2 : Tok) (x1 x2 : List Nat), v = .ref q ∧ led = [(q, tupO [.str (mkS x1) t1, .str (mkS x2) t2])] ∧ x1 = headL l ∧ x2 = tlL l) := by
  w_top off
  unfold Spec
  intros
  rename_i hret
  refine wpAny_call ?_
  k_dflt cell_enter
  k_steps
  all_goals (refine hret_one hret (by assumption) (by assumption) ⟨_, _, _, _, _, rfl, rfl, ?_, ?_⟩ (by first | assumption | exact allLt_mem (by assumption) | exact allLt_mem (And.right (by assumption)) | exact allLt_mem (And.right (And.right (by assumption))) | exact allLt_mem (And.right (And.right (And.right (by assumption))))) (by intro p hp; k_ownIn))
  all_goals first
    | exact pySl_cut2 47 l
    | (refine head_a (pySl_cut 47 l) ?_; simp only [decide_eq_true_eq, decide_eq_false_iff_not, ne_eq, Decidable.not_not] at *; assumption)
    | (refine head_c (pySl_cut 47 l) ?_ ?_ <;> (simp only [decide_eq_true_eq, decide_eq_false_iff_not, ne_eq, Decidable.not_not] at *; assumption))
    | (refine head_b (pySl_cut 47 l) ?_; simp only [decide_eq_true_eq, decide_eq_false_iff_not, ne_eq, Decidable.not_not] at *; assumption)
local macro_rules | `(tactic| walk_at "call ref") => `(tactic| (k_here; (with_reducible show wpAny _ _ (call (Value.ref 122) [Value.str (mkS _) _]) _ _ _); k_dflt (refine' Spec.use2 (by k_asm) (by k_asm) (by k_asm) (by k_asm) (by k_asm) (by first | exact rfl | assumption) (split_S _ _ _ ?p1) (by ktr_room) (by ktr_units) ?_; (case p1 => omega); k_whole); intro led' v' h' tk' hR' hfr' F' N'; (obtain ⟨q', t1', t2', x1', x2', hV', hL', hX', hY'⟩ := hR'); subst hV' hL' hX' hY'; (have hfr2 := hfr' _ (List.Mem.head _)); (try k_lt hfr2); (try simp only [List.nil_append, List.cons_append] at F' N'); (try clear hfr'); k_sweep))
set_option maxRecDepth 100000 in
set_option maxHeartbeats 100000000 in
theorem split_B (news : List (Addr × Obj)) (l : List Nat) (t : Tok) (hz : l.length ≤ 4096) (hs : Small l) : Spec PySem.Challenge.rw_ko0129_01.row.prog Mine.hd.view_39 Mine.hd.heap_39 122 8 60 [.bytes (mkB l) t] news (fun led v => ∃ (q : Addr) (t1 : Tok) (t2 : Tok) (x1 x2 : List Nat), v = .ref q ∧ led = [(q, tupO [.bytes (mkB x1) t1, .bytes (mkB x2) t2])] ∧ x1 = headL l ∧ x2 = tlL l) := by
  w_top off
  unfold Spec
  intros
  rename_i hret
  refine wpAny_call ?_
  k_dflt cell_enter
  k_steps
  all_goals (refine hret_one hret (by assumption) (by assumption) ⟨_, _, _, _, _, rfl, rfl, ?_, ?_⟩ (by first | assumption | exact allLt_mem (by assumption) | exact allLt_mem (And.right (by assumption)) | exact allLt_mem (And.right (And.right (by assumption))) | exact allLt_mem (And.right (And.right (And.right (by assumption))))) (by intro p hp; k_ownIn))
  all_goals first
    | exact pySl_cut2 47 l
    | (refine head_a (pySl_cut 47 l) ?_; simp only [decide_eq_true_eq, decide_eq_false_iff_not, ne_eq, Decidable.not_not] at *; assumption)
    | (refine head_c (pySl_cut 47 l) ?_ ?_ <;> (simp only [decide_eq_true_eq, decide_eq_false_iff_not, ne_eq, Decidable.not_not] at *; assumption))
    | (refine head_b (pySl_cut 47 l) ?_; simp only [decide_eq_true_eq, decide_eq_false_iff_not, ne_eq, Decidable.not_not] at *; assumption)
local macro_rules | `(tactic| walk_at "call ref") => `(tactic| (k_here; (with_reducible show wpAny _ _ (call (Value.ref 122) [Value.bytes (mkB _) _]) _ _ _); k_dflt (refine' Spec.use2 (by k_asm) (by k_asm) (by k_asm) (by k_asm) (by k_asm) (by first | exact rfl | assumption) (split_B _ _ _ ?p1 ?p2) (by ktr_room) (by ktr_units) ?_; (case p1 => omega); (case p2 => walk_at "kk SMALL"); k_whole); intro led' v' h' tk' hR' hfr' F' N'; (obtain ⟨q', t1', t2', x1', x2', hV', hL', hX', hY'⟩ := hR'); subst hV' hL' hX' hY'; (have hfr2 := hfr' _ (List.Mem.head _)); (try k_lt hfr2); (try simp only [List.nil_append, List.cons_append] at F' N'); (try clear hfr'); k_sweep))
set_option maxRecDepth 100000 in
set_option maxHeartbeats 100000000 in
theorem splitextU_S (news : List (Addr × Obj)) (l : List Nat) (t u u2 : Tok) (hz : l.length ≤ 4096) : Spec PySem.Challenge.rw_ko0129_01.row.prog Mine.hd.view_39 Mine.hd.heap_39 108 8 60 [.str (mkS l) t, .str (mkS [47]) u, .none, .str (mkS [46]) u2] news (fun led v => ∃ (q : Addr) (t1 : Tok) (t2 : Tok) (x1 x2 : List Nat), v = .ref q ∧ led = [(q, tupO [.str (mkS x1) t1, .str (mkS x2) t2])] ∧ x1 = l.take (extK l) ∧ x2 = l.drop (extK l)) := by
  w_top off
  unfold Spec
  intros
  rename_i hret
  refine wpAny_call ?_
  k_dflt cell_enter
  k_steps
  · unfold Stop
    refine ksw_while (σ := Int × Nat) (fun _ => news) (fun c => [(Str.ofString "filenameIndex", .int c.1 c.2)]) (fun _ => True) [] (fun c => ∃ k : Nat, c.1 = (k : Int) ∧ cutL 47 l ≤ k ∧ k + 1 ≤ cutL 46 l ∧ (((l.take k).drop (cutL 47 l)).any (fun c => c != 46)) = false) (fun c => cutL 46 l - c.1.toNat) (_, _) (by assumption) (by assumption) trivial (by kst_all) ?_ ?_
    · refine ⟨cutL 47 l, ?_, Nat.le_refl _, ?_, ?_⟩
      · dsimp only; omega
      · omega
      · rw [List.drop_of_length_le (by rw [List.length_take]; omega)]; rfl
    · rintro ⟨i, t9⟩ u9 h9 tk9 _ ⟨k, hk0, hk1, hk2, hk3⟩ F' N'
      dsimp only at *
      subst hk0
      k_steps
      · (refine hret_one hret (by assumption) (by assumption) ⟨_, _, _, _, _, rfl, rfl, ?_, ?_⟩ (by first | assumption | exact allLt_mem (by assumption) | exact allLt_mem (And.right (by assumption)) | exact allLt_mem (And.right (And.right (by assumption))) | exact allLt_mem (And.right (And.right (And.right (by assumption))))) (by intro p hp; k_ownIn))
        · rw [(ext_yes hk1 hk2 (by assumption) (by assumption)).2, pySl_to]
        · rw [(ext_yes hk1 hk2 (by assumption) (by assumption)).2, pySl_from]
      · rename_i hx
        have hk4 : (k : Int) < (cutL 46 l : Int) - 1 := by assumption
        rw [StopG.eq]
        refine ksw_end (σ := Int × Nat) (_, _) (by assumption) (by assumption) (fun p hp => hp) trivial (by kst_all) (by intro z h2 h3; (simp only [List.forall_mem_cons, List.not_mem_nil, false_implies, implies_true, and_true, ne_eq] at h2); first | (simp only [kstB, h2, List.contains_nil, if_false, Bool.false_eq_true, reduceIte]; done) | ((have h4 := h3); (simp only [List.contains_cons, List.contains_nil, Bool.or_false, Bool.or_eq_false_iff, beq_eq_false_iff_ne, ne_eq] at h4); (simp only [kstB, h2, h3, h4, if_false, Bool.false_eq_true, reduceIte]; done))) ⟨k + 1, ?_, ?_, ?_, ?_⟩ ?_
        · dsimp only; omega
        · omega
        · omega
        · exact any_step hk1 hk3 (by rw [← sl_one]; exact Decidable.not_not.mp (by assumption))
        · dsimp only; omega
      · have hk4 : k = cutL 46 l - 1 := by omega
        subst hk4
        (refine hret_one hret (by assumption) (by assumption) ⟨_, _, _, _, _, rfl, rfl, ?_, ?_⟩ (by first | assumption | exact allLt_mem (by assumption) | exact allLt_mem (And.right (by assumption)) | exact allLt_mem (And.right (And.right (by assumption))) | exact allLt_mem (And.right (And.right (And.right (by assumption))))) (by intro p hp; k_ownIn))
        · exact (ext_all (ext_no hk3)).1
        · exact (ext_all (ext_no hk3)).2
  · (refine hret_one hret (by assumption) (by assumption) ⟨_, _, _, _, _, rfl, rfl, ?_, ?_⟩ (by first | assumption | exact allLt_mem (by assumption) | exact allLt_mem (And.right (by assumption)) | exact allLt_mem (And.right (And.right (by assumption))) | exact allLt_mem (And.right (And.right (And.right (by assumption))))) (by intro p hp; k_ownIn))
    · exact (ext_all (ext_no2 (by assumption))).1
    · exact (ext_all (ext_no2 (by assumption))).2
local macro_rules | `(tactic| walk_at "call ref") => `(tactic| (k_here; (with_reducible show wpAny _ _ (call (Value.ref 108) [Value.str (mkS _) _, Value.str (Str.ofString _) _, Value.none, Value.str (Str.ofString _) _]) _ _ _); rw [lit_slash, lit_dot]))
local macro_rules | `(tactic| walk_at "call ref") => `(tactic| (k_here; (with_reducible show wpAny _ _ (call (Value.ref 108) [Value.str (mkS _) _, Value.str (mkS _) _, Value.none, Value.str (mkS _) _]) _ _ _); k_dflt (refine' Spec.use2 (by k_asm) (by k_asm) (by k_asm) (by k_asm) (by k_asm) (by first | exact rfl | assumption) (splitextU_S _ _ _ _ _ ?p1) (by ktr_room) (by ktr_units) ?_; (case p1 => omega); k_whole); intro led' v' h' tk' hR' hfr' F' N'; (obtain ⟨q', t1', t2', x1', x2', hV', hL', hX', hY'⟩ := hR'); subst hV' hL' hX' hY'; (have hfr2 := hfr' _ (List.Mem.head _)); (try k_lt hfr2); (try simp only [List.nil_append, List.cons_append] at F' N'); (try clear hfr'); k_sweep))
set_option maxRecDepth 100000 in
set_option maxHeartbeats 100000000 in
theorem splitext_S (news : List (Addr × Obj)) (l : List Nat) (t : Tok) (hz : l.length ≤ 4096) : Spec PySem.Challenge.rw_ko0129_01.row.prog Mine.hd.view_39 Mine.hd.heap_39 129 16 90 [.str (mkS l) t] news (fun led v => ∃ (q : Addr) (t1 : Tok) (t2 : Tok) (x1 x2 : List Nat), v = .ref q ∧ led = [(q, tupO [.str (mkS x1) t1, .str (mkS x2) t2])] ∧ x1 = l.take (extK l) ∧ x2 = l.drop (extK l)) := by
  w_top off
  unfold Spec
  intros
  rename_i hret
  refine wpAny_call ?_
  k_dflt cell_enter
  k_steps
  all_goals exact hret_one hret (by assumption) (by assumption) ⟨_, _, _, _, _, rfl, rfl, rfl, rfl⟩ (by first | assumption | exact allLt_mem (by assumption) | exact allLt_mem (And.right (by assumption)) | exact allLt_mem (And.right (And.right (by assumption))) | exact allLt_mem (And.right (And.right (And.right (by assumption))))) (by intro p hp; k_ownIn)
local macro_rules | `(tactic| walk_at "call ref") => `(tactic| (k_here; (with_reducible show wpAny _ _ (call (Value.ref 129) [Value.str (mkS _) _]) _ _ _); k_dflt (refine' Spec.use2 (by k_asm) (by k_asm) (by k_asm) (by k_asm) (by k_asm) (by first | exact rfl | assumption) (splitext_S _ _ _ ?p1) (by ktr_room) (by ktr_units) ?_; (case p1 => omega); k_whole); intro led' v' h' tk' hR' hfr' F' N'; (obtain ⟨q', t1', t2', x1', x2', hV', hL', hX', hY'⟩ := hR'); subst hV' hL' hX' hY'; (have hfr2 := hfr' _ (List.Mem.head _)); (try k_lt hfr2); (try simp only [List.nil_append, List.cons_append] at F' N'); (try clear hfr'); k_sweep))
set_option maxRecDepth 100000 in
set_option maxHeartbeats 100000000 in
theorem splitextU_B (news : List (Addr × Obj)) (l : List Nat) (t u u2 : Tok) (hz : l.length ≤ 4096) (hs : Small l) : Spec PySem.Challenge.rw_ko0129_01.row.prog Mine.hd.view_39 Mine.hd.heap_39 108 8 60 [.bytes (mkB l) t, .bytes (mkB [47]) u, .none, .bytes (mkB [46]) u2] news (fun led v => ∃ (q : Addr) (t1 : Tok) (t2 : Tok) (x1 x2 : List Nat), v = .ref q ∧ led = [(q, tupO [.bytes (mkB x1) t1, .bytes (mkB x2) t2])] ∧ x1 = l.take (extK l) ∧ x2 = l.drop (extK l)) := by
  w_top off
  unfold Spec
  intros
  rename_i hret
  refine wpAny_call ?_
  k_dflt cell_enter
  k_steps
  · unfold Stop
    refine ksw_while (σ := Int × Nat) (fun _ => news) (fun c => [(Str.ofString "filenameIndex", .int c.1 c.2)]) (fun _ => True) [] (fun c => ∃ k : Nat, c.1 = (k : Int) ∧ cutL 47 l ≤ k ∧ k + 1 ≤ cutL 46 l ∧ (((l.take k).drop (cutL 47 l)).any (fun c => c != 46)) = false) (fun c => cutL 46 l - c.1.toNat) (_, _) (by assumption) (by assumption) trivial (by kst_all) ?_ ?_
    · refine ⟨cutL 47 l, ?_, Nat.le_refl _, ?_, ?_⟩
      · dsimp only; omega
      · omega
      · rw [List.drop_of_length_le (by rw [List.length_take]; omega)]; rfl
    · rintro ⟨i, t9⟩ u9 h9 tk9 _ ⟨k, hk0, hk1, hk2, hk3⟩ F' N'
      dsimp only at *
      subst hk0
      k_steps
      · (refine hret_one hret (by assumption) (by assumption) ⟨_, _, _, _, _, rfl, rfl, ?_, ?_⟩ (by first | assumption | exact allLt_mem (by assumption) | exact allLt_mem (And.right (by assumption)) | exact allLt_mem (And.right (And.right (by assumption))) | exact allLt_mem (And.right (And.right (And.right (by assumption))))) (by intro p hp; k_ownIn))
        · rw [(ext_yes hk1 hk2 (by assumption) (by assumption)).2, pySl_to]
        · rw [(ext_yes hk1 hk2 (by assumption) (by assumption)).2, pySl_from]
      · rename_i hx
        have hk4 : (k : Int) < (cutL 46 l : Int) - 1 := by assumption
        rw [StopG.eq]
        refine ksw_end (σ := Int × Nat) (_, _) (by assumption) (by assumption) (fun p hp => hp) trivial (by kst_all) (by intro z h2 h3; (simp only [List.forall_mem_cons, List.not_mem_nil, false_implies, implies_true, and_true, ne_eq] at h2); first | (simp only [kstB, h2, List.contains_nil, if_false, Bool.false_eq_true, reduceIte]; done) | ((have h4 := h3); (simp only [List.contains_cons, List.contains_nil, Bool.or_false, Bool.or_eq_false_iff, beq_eq_false_iff_ne, ne_eq] at h4); (simp only [kstB, h2, h3, h4, if_false, Bool.false_eq_true, reduceIte]; done))) ⟨k + 1, ?_, ?_, ?_, ?_⟩ ?_
        · dsimp only; omega
        · omega
        · omega
        · exact any_step hk1 hk3 (by rw [← sl_one]; exact Decidable.not_not.mp (by assumption))
        · dsimp only; omega
      · have hk4 : k = cutL 46 l - 1 := by omega
        subst hk4
        (refine hret_one hret (by assumption) (by assumption) ⟨_, _, _, _, _, rfl, rfl, ?_, ?_⟩ (by first | assumption | exact allLt_mem (by assumption) | exact allLt_mem (And.right (by assumption)) | exact allLt_mem (And.right (And.right (by assumption))) | exact allLt_mem (And.right (And.right (And.right (by assumption))))) (by intro p hp; k_ownIn))
        · exact (ext_all (ext_no hk3)).1
        · exact (ext_all (ext_no hk3)).2
  · (refine hret_one hret (by assumption) (by assumption) ⟨_, _, _, _, _, rfl, rfl, ?_, ?_⟩ (by first | assumption | exact allLt_mem (by assumption) | exact allLt_mem (And.right (by assumption)) | exact allLt_mem (And.right (And.right (by assumption))) | exact allLt_mem (And.right (And.right (And.right (by assumption))))) (by intro p hp; k_ownIn))
    · exact (ext_all (ext_no2 (by assumption))).1
    · exact (ext_all (ext_no2 (by assumption))).2
local macro_rules | `(tactic| walk_at "call ref") => `(tactic| (k_here; (with_reducible show wpAny _ _ (call (Value.ref 108) [Value.bytes (mkB _) _, Value.bytes (List.toArray _) _, Value.none, Value.bytes (List.toArray _) _]) _ _ _); rw [lit_slashB, lit_dotB]))
local macro_rules | `(tactic| walk_at "call ref") => `(tactic| (k_here; (with_reducible show wpAny _ _ (call (Value.ref 108) [Value.bytes (mkB _) _, Value.bytes (mkB _) _, Value.none, Value.bytes (mkB _) _]) _ _ _); k_dflt (refine' Spec.use2 (by k_asm) (by k_asm) (by k_asm) (by k_asm) (by k_asm) (by first | exact rfl | assumption) (splitextU_B _ _ _ _ _ ?p1 ?p2) (by ktr_room) (by ktr_units) ?_; (case p1 => omega); (case p2 => walk_at "kk SMALL"); k_whole); intro led' v' h' tk' hR' hfr' F' N'; (obtain ⟨q', t1', t2', x1', x2', hV', hL', hX', hY'⟩ := hR'); subst hV' hL' hX' hY'; (have hfr2 := hfr' _ (List.Mem.head _)); (try k_lt hfr2); (try simp only [List.nil_append, List.cons_append] at F' N'); (try clear hfr'); k_sweep))
set_option maxRecDepth 100000 in
set_option maxHeartbeats 100000000 in
theorem splitext_B (news : List (Addr × Obj)) (l : List Nat) (t : Tok) (hz : l.length ≤ 4096) (hs : Small l) : Spec PySem.Challenge.rw_ko0129_01.row.prog Mine.hd.view_39 Mine.hd.heap_39 129 16 90 [.bytes (mkB l) t] news (fun led v => ∃ (q : Addr) (t1 : Tok) (t2 : Tok) (x1 x2 : List Nat), v = .ref q ∧ led = [(q, tupO [.bytes (mkB x1) t1, .bytes (mkB x2) t2])] ∧ x1 = l.take (extK l) ∧ x2 = l.drop (extK l)) := by
  w_top off
  unfold Spec
  intros
  rename_i hret
  refine wpAny_call ?_
  k_dflt cell_enter
  k_steps
  all_goals exact hret_one hret (by assumption) (by assumption) ⟨_, _, _, _, _, rfl, rfl, rfl, rfl⟩ (by first | assumption | exact allLt_mem (by assumption) | exact allLt_mem (And.right (by assumption)) | exact allLt_mem (And.right (And.right (by assumption))) | exact allLt_mem (And.right (And.right (And.right (by assumption))))) (by intro p hp; k_ownIn)
local macro_rules | `(tactic| walk_at "call ref") => `(tactic| (k_here; (with_reducible show wpAny _ _ (call (Value.ref 129) [Value.bytes (mkB _) _]) _ _ _); k_dflt (refine' Spec.use2 (by k_asm) (by k_asm) (by k_asm) (by k_asm) (by k_asm) (by first | exact rfl | assumption) (splitext_B _ _ _ ?p1 ?p2) (by ktr_room) (by ktr_units) ?_; (case p1 => omega); (case p2 => walk_at "kk SMALL"); k_whole); intro led' v' h' tk' hR' hfr' F' N'; (obtain ⟨q', t1', t2', x1', x2', hV', hL', hX', hY'⟩ := hR'); subst hV' hL' hX' hY'; (have hfr2 := hfr' _ (List.Mem.head _)); (try k_lt hfr2); (try simp only [List.nil_append, List.cons_append] at F' N'); (try clear hfr'); k_sweep))
local macro_rules | `(tactic| walk_at "call builtin:len") => `(tactic| (k_here; (with_reducible show wpAny _ _ (call (Value.builtin "len") [Value.ref _]) _ _ _); k_dflt (refine' len_L ?N ?m ?i ?z ?_; (case N => k_asm); (case m => walk_at "kk MEM"); (case i => walk_at "kk INF"); (case z => walk_at "kk LNF"); k_whole); intro t' tk'))
local macro_rules | `(tactic| walk_at "subscriptTail") => `(tactic| (k_here; (with_reducible show wpAny _ _ (subscriptTail _ _ (Value.ref _) (Value.int _ _)) _ _ _); k_dflt (refine' item_L ?N ?m ?i ?x ?k ?z ?_ ?s; (case N => k_asm); (case m => walk_at "kk MEM"); (case i => walk_at "kk INF"); (case x => walk_at "kk nat"); (case k => walk_at "kk LNF"); (case z => walk_at "kk LNF"); (case s => with_unfolding_all rfl); k_whole); intro t'))
local macro_rules | `(tactic| walk_at "compareOp NotIn int ref") => `(tactic| (k_here; (with_reducible show wpAny _ _ (compareOp CmpOp.NotIn (Value.int _ _) (Value.ref _)) _ _ _); k_dflt (refine' notin_L ?N ?m ?i ?x ?_; (case N => k_asm); (case m => walk_at "kk MEM"); (case i => walk_at "kk INF"); (case x => rfl); k_whole)))
local macro_rules | `(tactic| walk_at "compareOp NotEq ref ref") => `(tactic| (k_here; (with_reducible show wpAny _ _ (compareOp CmpOp.NotEq (Value.ref _) (Value.ref _)) _ _ _); k_dflt (refine' ne_L ?N ?m ?i ?m2 ?j ?u ?_; (case N => k_asm); (case m => walk_at "kk MEM"); (case i => walk_at "kk INF"); (case m2 => walk_at "kk MEM"); (case j => walk_at "kk INF"); (case u => ke_room); k_whole)))
local macro_rules | `(tactic| walk_at "call builtin:min") => `(tactic| (k_here; (with_reducible show wpAny _ _ (call (Value.builtin "min") [Value.ref _]) _ _ _); k_dflt (refine' min_L ?F ?N ?h ?m ?i ?l ?_; (case F => k_asm); (case N => k_asm); (case h => with_unfolding_all rfl); (case m => walk_at "kk MEM"); (case i => walk_at "kk INF"); (case l => walk_at "kk LNF"); k_whole); intro h' M' t' tk' F' N' hmem' hmin'; (try k_sweep)))
local macro_rules | `(tactic| walk_at "binaryOp Add ref ref") => `(tactic| (k_here; (with_reducible show wpAny _ _ (binaryOp Operator.Add (Value.ref _) (Value.ref _)) _ _ _); k_dflt (refine' add_L ?F ?N ?m ?m2 ?i ?j ?z ?_; (case F => k_asm); (case N => k_asm); (case m => walk_at "kk MEM"); (case m2 => walk_at "kk MEM"); (case i => walk_at "kk INF"); (case j => walk_at "kk INF"); (case z => walk_at "kk LNF"); k_whole); intro D' ws' h' F' N' l1 hI'; (try k_lt l1); (try k_sweep)))
local macro_rules | `(tactic| walk_at "subscriptTail Name Slice ref ref") => `(tactic| (k_here; (with_reducible show wpAny _ _ (subscriptTail _ (PySem.Expr.Slice _ _ none _) (Value.ref _) (Value.ref _)) _ _ _); k_dflt (refine' upto_L ?F ?N ?m ?i ?y ?z ?_ ?s ?t; (case F => k_asm); (case N => k_asm); (case m => walk_at "kk MEM"); (case i => walk_at "kk INF"); (case y => walk_at "kk nat"); (case z => walk_at "kk LNF"); (case s => with_unfolding_all rfl); (case t => (intro _; with_unfolding_all rfl)); k_whole); intro D' ws' h' F' N' l1 hI'; (try k_lt l1); (try k_sweep)))
local macro_rules | `(tactic| walk_at "subscriptTail Name Slice ref ref") => `(tactic| (k_here; (with_reducible show wpAny _ _ (subscriptTail _ (PySem.Expr.Slice _ _ none _) (Value.ref _) (Value.ref _)) _ _ _); k_dflt (refine' from_L ?F ?N ?m ?i ?y ?z ?_ ?s ?t; (case F => k_asm); (case N => k_asm); (case m => walk_at "kk MEM"); (case i => walk_at "kk INF"); (case y => walk_at "kk nat"); (case z => walk_at "kk LNF"); (case s => with_unfolding_all rfl); (case t => (intro _; with_unfolding_all rfl)); k_whole); intro D' ws' h' F' N' l1 hI'; (try k_lt l1); (try k_sweep)))
set_option maxRecDepth 100000 in
set_option maxHeartbeats 100000000 in
theorem name_ok (news : List (Addr × Obj)) (l : Addr) (vs : List Value) (n : Nat) (codes : List Nat) (hl : (l, listOf vs.toArray n) ∈ news) (hi : IntsAre vs (IN codes)) (hz : codes.length ≤ 4096) : Spec PySem.Challenge.rw_ko0129_01.row.prog Mine.hd.view_39 Mine.hd.heap_39 151 6 40 [.ref l] news (fun led v => ∃ (q : Addr) (ws : List Value) (k : Nat), v = .ref q ∧ led = [(q, listOf ws.toArray k)] ∧ IntsAre ws (IN (tlL codes))) := by
  w_top off
  unfold Spec
  intros
  rename_i hret
  refine wpAny_call ?_
  k_dflt cell_enter
  k_steps
  unfold Stop
  refine For_invVF (by assumption) rfl rfl ?_
  k_steps
  unfold Stop
  refine for_list (σ := Addr × List Value × Nat) (fun c => (c.1, listOf c.2.1.toArray c.2.2) :: news) (fun c => [(Str.ofString "name", .ref c.1)]) [] (fun i c => IntsAre c.2.1 (IN (tlL (codes.take i))) ∧ AllLt c.1 news) (_, [], 0) rfl (News.isList (by assumption) (.tail _ hl)) (.inr ⟨_, fun c => .tail _ hl⟩) (by assumption) (by assumption) (by kst_all) ⟨.nil, allLt_of (by assumption)⟩ ?_ ?_
  · rintro ⟨d, ws, k⟩ i v u h tk I oI hi' hv ⟨hP, hlt⟩ hne F' N'
    dsimp only at *
    obtain ⟨c, t9, hc, rfl⟩ := IN_at hi hv
    have hz2 := tlL_length (codes.take i)
    rw [List.length_take] at hz2
    k_steps
    all_goals try rw [StopG.eq]
    all_goals (refine turn_end (σ := Addr × List Value × Nat) (_, _, _) (by assumption) (by assumption) (List.forall_mem_cons.mpr ⟨by k_memK, by intro p hp; k_ownIn⟩) (by k_memK) (List.forall_mem_cons.mpr ⟨?_, fun p hp => hne p (.tail _ hp)⟩) (by kst_all) (by intro z h1 h2 h3; (simp only [List.forall_mem_cons, List.not_mem_nil, false_implies, implies_true, and_true, ne_eq] at h2); first | (simp only [kstB, h1, h2, List.contains_nil, if_false, Bool.false_eq_true, reduceIte]; done) | ((have h4 := h3); (simp only [List.contains_cons, List.contains_nil, Bool.or_false, Bool.or_eq_false_iff, beq_eq_false_iff_ne, ne_eq] at h4); (simp only [kstB, h1, h2, h3, h4, if_false, Bool.false_eq_true, reduceIte]; done))) ⟨?_, ?_⟩)
    all_goals dsimp only
    all_goals first | (refine neN ?_; omega) | exact And.right (And.right (by assumption)) | exact And.right (And.right (And.right (by assumption))) | skip
    · rw [take_snoc hc, tlL_snoc, if_pos (by omega)]; exact .nil
    · rw [take_snoc hc, tlL_snoc, if_neg (by omega)]; first | assumption | (rw [IN_append]; assumption)
  · rintro ⟨d, ws, k⟩ u h tk ⟨hP, hlt⟩ F' N'
    dsimp only at *
    k_steps
    rw [ints_len hi, List.take_length] at hP
    exact hret_one hret (by assumption) (by assumption) ⟨_, _, _, rfl, rfl, hP⟩ (allLt_mem hlt) (by intro p hp; k_ownIn)
set_option maxRecDepth 100000 in
set_option maxHeartbeats 100000000 in
theorem made_S (news : List (Addr × Obj)) (l : Addr) (vs : List Value) (n : Nat) (codes : List Nat) (t : Tok) (hl : (l, listOf vs.toArray n) ∈ news) (hi : IntsAre vs (IN codes)) (hz : codes.length ≤ 4096) (hc : ∀ c ∈ codes, c ≤ 1114111) : Spec PySem.Challenge.rw_ko0129_01.row.prog Mine.hd.view_39 Mine.hd.heap_39 144 6 60 [.ref l, .int 0 t] news (fun led v => led = [] ∧ ∃ t, v = .str (mkS codes) t) := by
  w_top off
  unfold Spec
  intros
  rename_i hret
  refine wpAny_call ?_
  k_dflt cell_enter
  k_steps
  unfold Stop
  refine' comp_eval (K := ItemKind.int) (fun _ => true) (fun n => PyData.str ⟨#[n.toNat]⟩) (by assumption) ?hh ?hclos ?hcell ?hkind ?hnames ?hx ?hs ?h
  case hh => with_unfolding_all rfl
  case hclos => with_unfolding_all rfl
  case hcell => decide
  case hkind => with_unfolding_all rfl
  case hnames => decide
  case hx => with_unfolding_all rfl
  case hs => intro _; with_unfolding_all rfl
  k_steps
  unfold Stop
  refine' ⟨_, _, _, _, _, rfl, ?hmm, ?haa, ?hll, ?hFF, ?hNN, ?_, ?_, ?_⟩
  case hNN => assumption
  case hFF => assumption
  case hmm => first | assumption | k_mem
  case haa => exact hi.areOf
  case hll => exact (by rw [IN_length]; omega)
  · intro C a v s₂ m₂ E' ha hv F8 hk8 hm
    rfl
  · rintro C a v s₂ m₂ E' ha ⟨t8, rfl⟩ _ F8 hk8 hm
    obtain ⟨c, hc1, rfl⟩ := IN_mem ha
    have hc2 := hc c hc1
    have hn8 := F8.ns
    k_steps
    all_goals first | exact Keeps.toks _ | exact Keeps.rfl' | exact Carried.str _ _
  · intro D ys h' tk n' N hne F hca
    k_steps
    unfold Stop
    refine join_chrs (codes := codes) (by assumption) lit_nil (List.Mem.head _) (by assumption) (by omega) ?_
    intro t' k'
    k_steps
    exact hret [] _ _ _ ⟨rfl, _, rfl⟩ no_led (by k_asm) (cb_drop (by assumption) (by intro p hp; k_ownIn))
set_option maxRecDepth 100000 in
set_option maxHeartbeats 100000000 in
theorem made_B (news : List (Addr × Obj)) (l : Addr) (vs : List Value) (n : Nat) (codes : List Nat) (t : Tok) (hl : (l, listOf vs.toArray n) ∈ news) (hi : IntsAre vs (IN codes)) (hz : codes.length ≤ 4096) (hc : Small codes) : Spec PySem.Challenge.rw_ko0129_01.row.prog Mine.hd.view_39 Mine.hd.heap_39 144 6 60 [.ref l, .int 1 t] news (fun led v => led = [] ∧ ∃ t, v = .bytes (mkB codes) t) := by
  w_top off
  unfold Spec
  intros
  rename_i hret
  refine wpAny_call ?_
  k_dflt cell_enter
  k_steps
  refine bytes_IN (by assumption) (by assumption) rfl hl hi hc (by omega) ?_
  intro h' t' k' F' N'
  k_steps
  exact hret [] _ _ _ ⟨rfl, _, rfl⟩ no_led (by k_asm) (cb_drop (by assumption) (by intro p hp; k_ownIn))
section
local macro_rules | `(tactic| walk_at "eval IfExp") => `(tactic| (k_here; refine' cut_int ?ca ?cb; (case' cb => intro n' u' k' hn0' hn1')))
set_option maxRecDepth 100000 in
set_option maxHeartbeats 100000000 in
theorem signs_ok (news : List (Addr × Obj)) (l : Addr) (vs : List Value) (ns : List Int) (hi : IntsAre vs ns) : SpecP PySem.Challenge.rw_ko0129_01.row.prog Mine.hd.view_39 Mine.hd.heap_39 139 6 60 [.ref l] news (fun h => h.IsList l vs.toArray) (fun led v => ∃ (q lc lm : Addr) (vc vm : List Value) (nc nm : Nat) (codes more : List Nat), v = .ref q ∧ led = [(q, tupO [.ref lc, .ref lm]), (lc, listOf vc.toArray nc), (lm, listOf vm.toArray nm)] ∧ IntsAre vc (IN codes) ∧ IntsAre vm (IN more) ∧ codes.length + more.length ≤ 40 ∧ (∀ c ∈ codes, c ≤ 1114111) ∧ (∀ c ∈ more, c ≤ 1114111) ∧ lc < lm ∧ lm < q) := by
  w_top off
  unfold SpecP
  intros
  rename_i hpre hret
  refine wpAny_call ?_
  k_dflt cell_enter
  k_steps
  unfold Stop
  refine For_invVF (by assumption) rfl rfl ?_
  k_steps
  unfold Stop
  refine' for_list (σ := SignSt) (fun c => (_, listOf c.vm.toArray c.nm) :: (_, listOf c.vc.toArray c.nc) :: news) (fun c => [(Str.ofString "into", .int c.into c.ti), (Str.ofString "size", .int c.size c.ts)]) [Str.ofString "kind", Str.ofString "c", Str.ofString "sign"] (fun i c => c.ok) ⟨[], [], 0, 0, 0, _, 0, _⟩ rfl ?h1 ?h2 ?h3 ?h4 ?h5 ?h6 ?turn ?done
  case h4 => exact cb_drop (by assumption) (fun p hp => List.Mem.tail _ hp)
  case h3 => assumption
  case h1 => exact list_up (list_up hpre (Fr.keep (by assumption))) (Fr.keep (by assumption))
  case h2 => exact .inl ((list_up hpre (Fr.keep (by assumption))).imp fun _ x => x.1)
  case h5 => kst_all
  case h6 => exact SignSt.start
  case turn =>
    rintro c i v u h tk I oI hi' hv hok hne F' N'
    simp only [List.forall_mem_cons] at hne
    obtain ⟨n1, n2, n3⟩ := hne
    replace n1 := neN n1
    replace n2 := neN n2
    obtain ⟨x0, t9, hx0, rfl⟩ := ints_at hi hv
    dsimp only at *
    k_steps
    unfold Stop
    refine' ksw_while (σ := SignSt × Int × Nat) (fun c => (I, oI) :: (_, listOf c.1.vm.toArray c.1.nm) :: (_, listOf c.1.vc.toArray c.1.nc) :: news) (fun c => [(Str.ofString "x", .int c.2.1 c.2.2), (Str.ofString "into", .int c.1.into c.1.ti), (Str.ofString "size", .int c.1.size c.1.ts)]) (fun _ => True) [Str.ofString "kind", Str.ofString "c", Str.ofString "sign"] (fun c => c.1.ok ∧ 0 ≤ c.2.1) (fun c => (40 - c.1.size).toNat) (c, _, _) ?w1 ?w2 trivial ?w3 ?w4 ?w5
    case w1 => assumption
    case w2 => assumption
    case w3 => kst_all
    case w4 => exact ⟨hok, abs_nonneg _⟩
    rintro ⟨c, x1, tx⟩ u2 h2 tk2 _ ⟨hok, hx1⟩ F' N'
    dsimp only at *
    replace hok : SignSt.ok c := hok
    obtain ⟨z1, z2, z3, z4⟩ := SignSt.lens hok
    k_steps
    any_goals (with_reducible show Stop _; unfold Stop; first | exact ⟨_, _, _, rfl, (menuZ _).1, (menuZ _).2, rfl⟩ | exact ⟨_, _, _, rfl, by omega, by omega, rfl⟩ | exact ⟨_, _, _, rfl, by first | omega | (k_fmods; omega), by first | omega | (k_fmods; omega), rfl⟩)
    all_goals try rw [StopG.eq]
    all_goals first
      | ((with_reducible refine' turn_end (σ := SignSt) ⟨_, _, _, _, _, _, _, _⟩ ?F ?N ?hn ?hI ?hne ?hk ?hr ?hp)
         (case F => assumption)
         (case N => assumption)
         (case hk => kst_all)
         (case hn => exact List.forall_mem_cons.mpr ⟨by k_memK, List.forall_mem_cons.mpr ⟨by k_memK, by intro p hp; k_ownIn⟩⟩)
         (case hI => k_memK)
         (case hne => exact List.forall_mem_cons.mpr ⟨n1, List.forall_mem_cons.mpr ⟨n2, n3⟩⟩)
         (case hr => intro z h1 h2 h3; (simp only [List.forall_mem_cons, List.not_mem_nil, false_implies, implies_true, and_true, ne_eq] at h2); first | (simp only [kstB, h1, h2, List.contains_nil, if_false, Bool.false_eq_true, reduceIte]; done) | ((have h4 := h3); (simp only [List.contains_cons, List.contains_nil, Bool.or_false, Bool.or_eq_false_iff, beq_eq_false_iff_ne, ne_eq] at h4); (simp only [kstB, h1, h2, h3, h4, if_false, Bool.false_eq_true, reduceIte]; done)))
         (case hp => (first | exact SignSt.addC hok (by omega) (by omega) (by omega) (by omega) | exact SignSt.addM hok (by omega) (by omega) (by omega) (by omega) | exact SignSt.add0 hok (by omega) (by omega) | exact hok)))
      | ((with_reducible refine' ksw_end (σ := SignSt × Int × Nat) (⟨_, _, _, _, _, _, _, _⟩, _, _) ?F ?N ?hn trivial ?hk ?hr ?hp ?hm)
         (case F => assumption)
         (case N => assumption)
         (case hk => kst_all)
         (case hn => exact List.forall_mem_cons.mpr ⟨by k_memK, List.forall_mem_cons.mpr ⟨by k_memK, List.forall_mem_cons.mpr ⟨by k_memK, by intro p hp; k_ownIn⟩⟩⟩)
         (case hr => intro z h2 h3; (simp only [List.forall_mem_cons, List.not_mem_nil, false_implies, implies_true, and_true, ne_eq] at h2); first | (simp only [kstB, h2, List.contains_nil, if_false, Bool.false_eq_true, reduceIte]; done) | ((have h4 := h3); (simp only [List.contains_cons, List.contains_nil, Bool.or_false, Bool.or_eq_false_iff, beq_eq_false_iff_ne, ne_eq] at h4); (simp only [kstB, h2, h3, h4, if_false, Bool.false_eq_true, reduceIte]; done)))
         (case hp =>
           refine ⟨?_, Int.fdiv_nonneg hx1 (by decide)⟩
           (first | exact SignSt.addC hok (by omega) (by omega) (by omega) (by omega) | exact SignSt.addM hok (by omega) (by omega) (by omega) (by omega) | exact SignSt.add0 hok (by omega) (by omega) | exact hok))
         (case hm =>
           dsimp only
           omega))
  case done =>
    rintro c u h tk hok F' N'
    dsimp only at *
    k_steps
    obtain ⟨codes, more, o1, o2, o3, o4, o5, o6⟩ := hok
    refine' hret [(_, tupO [.ref _, .ref _]), (_, listOf c.vc.toArray _), (_, listOf c.vm.toArray _)] _ _ _ ⟨_, _, _, _, _, _, _, codes, more, rfl, rfl, o1, o2, ?_, o5, o6, ?_, ?_⟩ ?fr ?F (cb_drop ?N ?sub)
    case F => assumption
    case N => assumption
    case sub => exact List.forall_mem_cons.mpr ⟨by k_memK, List.forall_mem_cons.mpr ⟨by k_memK, List.forall_mem_cons.mpr ⟨by k_memK, by intro p hp; k_ownIn⟩⟩⟩
    case fr => exact List.forall_mem_cons.mpr ⟨by first | assumption | exact allLt_mem (by assumption) | exact allLt_mem (And.right (by assumption)) | exact allLt_mem (And.right (And.right (by assumption))) | exact allLt_mem (And.right (And.right (And.right (by assumption)))), List.forall_mem_cons.mpr ⟨by first | assumption | exact allLt_mem (by assumption) | exact allLt_mem (And.right (by assumption)) | exact allLt_mem (And.right (And.right (by assumption))) | exact allLt_mem (And.right (And.right (And.right (by assumption)))), List.forall_mem_cons.mpr ⟨by first | assumption | exact allLt_mem (by assumption) | exact allLt_mem (And.right (by assumption)) | exact allLt_mem (And.right (And.right (by assumption))) | exact allLt_mem (And.right (And.right (And.right (by assumption)))), fun _ h => nomatch h⟩⟩⟩
    all_goals first | omega | (refine ltN ?_; omega)
end
local macro_rules | `(tactic| walk_at "call ref") => `(tactic| (k_here; (with_reducible show wpAny _ _ (call (Value.ref 151) [Value.ref _]) _ _ _); k_dflt (refine' Spec.use2 (by k_asm) (by k_asm) (by k_asm) (by k_asm) (by k_asm) (by first | exact rfl | assumption) (name_ok _ _ _ _ _ ?p1 ?p2 ?p3) (by ktr_room) (by ktr_units) ?_; (case p1 => walk_at "kk MEM"); (case p2 => walk_at "kk INF"); (case p3 => walk_at "kk LNF"); k_whole); intro led' v' h' tk' hR' hfr' F' N'; (obtain ⟨q', ws', k', hV', hL', hI'⟩ := hR'); subst hV' hL'; (have hfr2 := hfr' _ (List.Mem.head _)); (try k_lt hfr2); (try simp only [List.nil_append, List.cons_append] at F' N'); (try clear hfr'); k_sweep))
theorem split_K (news : List (Addr × Obj)) (k : Bool) (l : List Nat) (t : Tok) (hz : l.length ≤ 4096) (hs : OkK k l) : Spec PySem.Challenge.rw_ko0129_01.row.prog Mine.hd.view_39 Mine.hd.heap_39 122 8 60 [valK k l t] news (fun led v => ∃ (q : Addr) (t1 t2 : Tok) (x1 x2 : List Nat), v = .ref q ∧ led = [(q, tupO [valK k x1 t1, valK k x2 t2])] ∧ x1 = headL l ∧ x2 = tlL l) := by
  cases k
  · exact split_S news l t hz
  · exact split_B news l t hz hs.small
local macro_rules | `(tactic| walk_at "call ref") => `(tactic| (k_here; (with_reducible show wpAny _ _ (call (Value.ref 122) [valK _ _ _]) _ _ _); k_dflt (refine' Spec.use2 (by k_asm) (by k_asm) (by k_asm) (by k_asm) (by k_asm) (by first | exact rfl | assumption) (split_K _ _ _ _ ?p1 ?p2) (by ktr_room) (by ktr_units) ?_; (case p1 => walk_at "kk LNF"); (case p2 => walk_at "kk OKS"); k_whole); intro led' v' h' tk' hR' hfr' F' N'; (obtain ⟨q', t1', t2', x1', x2', hV', hL', hX', hY'⟩ := hR'); subst hV' hL' hX' hY'; (have hfr2 := hfr' _ (List.Mem.head _)); (try k_lt hfr2); (try simp only [List.nil_append, List.cons_append] at F' N'); (try clear hfr'); k_sweep))
theorem splitext_K (news : List (Addr × Obj)) (k : Bool) (l : List Nat) (t : Tok) (hz : l.length ≤ 4096) (hs : OkK k l) : Spec PySem.Challenge.rw_ko0129_01.row.prog Mine.hd.view_39 Mine.hd.heap_39 129 16 90 [valK k l t] news (fun led v => ∃ (q : Addr) (t1 t2 : Tok) (x1 x2 : List Nat), v = .ref q ∧ led = [(q, tupO [valK k x1 t1, valK k x2 t2])] ∧ x1 = l.take (extK l) ∧ x2 = l.drop (extK l)) := by
  cases k
  · exact splitext_S news l t hz
  · exact splitext_B news l t hz hs.small
local macro_rules | `(tactic| walk_at "call ref") => `(tactic| (k_here; (with_reducible show wpAny _ _ (call (Value.ref 129) [valK _ _ _]) _ _ _); k_dflt (refine' Spec.use2 (by k_asm) (by k_asm) (by k_asm) (by k_asm) (by k_asm) (by first | exact rfl | assumption) (splitext_K _ _ _ _ ?p1 ?p2) (by ktr_room) (by ktr_units) ?_; (case p1 => walk_at "kk LNF"); (case p2 => walk_at "kk OKS"); k_whole); intro led' v' h' tk' hR' hfr' F' N'; (obtain ⟨q', t1', t2', x1', x2', hV', hL', hX', hY'⟩ := hR'); subst hV' hL' hX' hY'; (have hfr2 := hfr' _ (List.Mem.head _)); (try k_lt hfr2); (try simp only [List.nil_append, List.cons_append] at F' N'); (try clear hfr'); k_sweep))
theorem made_K (news : List (Addr × Obj)) (k : Bool) (l : Addr) (vs : List Value) (n : Nat) (codes : List Nat) (t : Tok) (hl : (l, listOf vs.toArray n) ∈ news) (hi : IntsAre vs (IN codes)) (hz : codes.length ≤ 4096) (hc : OkK k codes) : Spec PySem.Challenge.rw_ko0129_01.row.prog Mine.hd.view_39 Mine.hd.heap_39 144 6 60 [.ref l, .int (kindI k) t] news (fun led v => led = [] ∧ ∃ t, v = valK k codes t) := by
  cases k
  · exact made_S news l vs n codes t hl hi hz hc.cps
  · exact made_B news l vs n codes t hl hi hz hc.small
local macro_rules | `(tactic| walk_at "call ref") => `(tactic| (k_here; (with_reducible show wpAny _ _ (call (Value.ref 144) [Value.ref _, Value.int (kindI _) _]) _ _ _); k_dflt (refine' Spec.use2 (by k_asm) (by k_asm) (by k_asm) (by k_asm) (by k_asm) (by first | exact rfl | assumption) (made_K _ _ _ _ _ _ _ ?p1 ?p2 ?p3 ?p4) (by ktr_room) (by ktr_units) ?_; (case p1 => walk_at "kk MEM"); (case p2 => walk_at "kk INF"); (case p3 => walk_at "kk LNF"); (case p4 => walk_at "kk OKS"); k_whole); intro led' v' h' tk' hR' hfr' F' N'; (obtain ⟨hL', t', hV'⟩ := hR'); subst hL' hV'; (try simp only [List.nil_append, List.cons_append] at F' N'); (try clear hfr'); k_sweep))
local macro_rules | `(tactic| walk_at "compareOp Eq ref ref") => `(tactic| (k_here; (with_reducible show wpAny _ _ (compareOp CmpOp.Eq (Value.ref _) (Value.ref _)) _ _ _); k_dflt (refine' pair_eqK ?N ?m ?m2 ?u ?s1 ?s2 ?s3 ?s4 ?_; (case N => k_asm); (case m => walk_at "kk MEM"); (case m2 => walk_at "kk MEM"); (case u => ke_room); (case s1 => walk_at "kk OKS"); (case s2 => walk_at "kk OKS"); (case s3 => walk_at "kk OKS"); (case s4 => walk_at "kk OKS"); k_whole)))
local macro_rules | `(tactic| walk_at "compareOp NotEq ref ref") => `(tactic| (k_here; (with_reducible show wpAny _ _ (compareOp CmpOp.NotEq (Value.ref _) (Value.ref _)) _ _ _); k_dflt (refine' pair_neK ?N ?m ?m2 ?u ?s1 ?s2 ?s3 ?s4 ?_; (case N => k_asm); (case m => walk_at "kk MEM"); (case m2 => walk_at "kk MEM"); (case u => ke_room); (case s1 => walk_at "kk OKS"); (case s2 => walk_at "kk OKS"); (case s3 => walk_at "kk OKS"); (case s4 => walk_at "kk OKS"); k_whole)))
local macro_rules | `(tactic| walk_at "subscriptTail") => `(tactic| (k_here; (with_reducible show wpAny _ _ (subscriptTail _ (Expr.Slice _ _ none _) (valK _ _ _) (Value.ref _)) _ _ _); (with_reducible rename Fr _ _ _ _ => F'); (with_reducible rename News _ _ _ _ => N'); k_dflt (refine' slice_K2 (s := ⟨_, _, _, _, _⟩) F' N' ?h1 ?h2 ?hz ?_ ?hs ?ht; (case h1 => constructor); (case h2 => constructor); (case hz => walk_at "kk LNF"); (case hs => ((with_unfolding_all rfl))); (case ht => (intro _; with_unfolding_all rfl)); k_whole); intro h' t' tk' F' N' hlen'; (try k_sweep)))
set_option maxRecDepth 100000 in
set_option maxHeartbeats 100000000 in
theorem right_K (news : List (Addr × Obj)) (k : Bool) (lc lm : Addr) (vc vm : List Value) (nc nm : Nat) (codes more : List Nat) (t : Tok) (hlc : (lc, listOf vc.toArray nc) ∈ news) (hlm : (lm, listOf vm.toArray nm) ∈ news) (hic : IntsAre vc (IN codes)) (him : IntsAre vm (IN more)) (hz : codes.length + more.length ≤ 40) (hcc : OkK k codes) (hcm : OkK k more) : Spec PySem.Challenge.rw_ko0129_01.row.prog Mine.hd.view_39 Mine.hd.heap_39 156 20 160 [.ref lc, .ref lm, .int (kindI k) t] news (fun led v => led = [] ∧ v = .bool true) := by
  w_top off
  unfold Spec
  intros
  rename_i hret
  refine wpAny_call ?_
  k_dflt cell_enter
  k_steps
  unfold Stop
  refine For_invVF (by assumption) rfl rfl ?_
  k_steps
  unfold Stop
  refine' for_range (n := codes.length) (σ := List Value × Nat) (fun c => (_, listOf c.1.toArray c.2) :: news) (fun c => []) [] (fun i c => IntsAre c.1 (IN (cutsL codes i))) ([], 0) rfl ?h1 ?h2 ?h2b ?h3 ?h4 ?h5 ?h6 ?turn ?done
  case h1 => assumption
  case h2 => exact range_small _ (by omega)
  case h2b => exact range_n _
  case h3 => assumption
  case h4 => exact cb_drop (by assumption) (fun p hp => hp)
  case h5 => kst_all
  case h6 => exact IntsAre.nil
  case turn =>
    rintro ⟨ws, n⟩ i k t9 u9 h9 tk9 I oI hi' hk' hP hne F' N'
    dsimp only at *
    rw [Int.zero_add] at hk'
    subst hk'
    have hcl := cutsL_len codes i
    have hwl := ints_len hP
    obtain ⟨n1, n3⟩ := List.forall_mem_cons.mp hne
    dsimp only at n1
    have n2 : @Ne Nat _ _ := n1
    have htl := tlL_length (codes.take i)
    rw [List.length_take] at htl
    k_steps
    any_goals (with_reducible show Stop _)
    case' _ =>
      unfold Stop
      refine' comp_eval (K := ItemKind.int) (fun n => decide (n ≠ 46)) (PyData.int) (by assumption) ?hh ?hclos ?hcell ?hkind ?hnames ?hx ?hs ?h
      case hh => with_unfolding_all rfl
      case hclos => with_unfolding_all rfl
      case hcell => decide
      case hkind => with_unfolding_all rfl
      case hnames => decide
      case hx => with_unfolding_all rfl
      case hs => intro _; with_unfolding_all rfl
      k_steps
      unfold Stop
      refine' ⟨_, _, _, _, _, rfl, ?hmm, ?haa, ?hll, ?hFF, ?hNN, ?_, ?_, ?_⟩
      case hNN => assumption
      case hFF => assumption
      case hmm => (repeat (first | (with_reducible assumption) | (with_reducible exact List.mem_cons_self ..) | (with_reducible refine List.mem_cons_of_mem _ ?_)))
      case haa => exact (IntsAre.areOf (by assumption))
      case hll => exact (by rw [IN_length]; omega)
      · rintro C a v s₂ m₂ E' ha ⟨t8, rfl⟩ F8 hk8 hm
        have hn8 := F8.ns
        k_steps
        all_goals first | exact Keeps.toks _ | exact Keeps.rfl' | exact int_bne _ _
      · rintro C a v s₂ m₂ E' ha ⟨t8, rfl⟩ _ F8 hk8 hm
        have hn8 := F8.ns
        k_steps
        all_goals first | exact Keeps.toks _ | exact Keeps.rfl' | exact Carried.int _ _
      · intro D ys h' tk n' N hne2 F hca
        have hI9 := carried_ints hca
        rw [List.map_id', IN_filter _ (· != 46) nat46] at hI9
        have n5 := hne2 (_, listOf ws.toArray n) (by k_memK)
        dsimp only at n5
        have n6 : @Ne Nat _ _ := n5
        k_steps
        all_goals try rw [StopG.eq]
        · refine turn_end (σ := List Value × Nat) (ws ++ [.int (i : Int) t9], n + 1) (by assumption) (by assumption) (List.forall_mem_cons.mpr ⟨by (repeat (first | (with_reducible assumption) | (with_reducible exact List.mem_cons_self ..) | (with_reducible refine List.mem_cons_of_mem _ ?_))), by intro p hp; k_ownIn⟩) (by (repeat (first | (with_reducible assumption) | (with_reducible exact List.mem_cons_self ..) | (with_reducible refine List.mem_cons_of_mem _ ?_)))) (by exact List.forall_mem_cons.mpr ⟨n1, n3⟩) (by kst_all) (by intro z h1 h2 h3; (simp only [List.forall_mem_cons, List.not_mem_nil, false_implies, implies_true, and_true, ne_eq] at h2); first | (simp only [kstB, h1, h2, List.contains_nil, if_false, Bool.false_eq_true, reduceIte]; done) | ((have h4 := h3); (simp only [List.contains_cons, List.contains_nil, Bool.or_false, Bool.or_eq_false_iff, beq_eq_false_iff_ne, ne_eq] at h4); (simp only [kstB, h1, h2, h3, h4, if_false, Bool.false_eq_true, reduceIte]; done))) ?_
          dsimp only
          rw [cutsL_yes ⟨by omega, by assumption, by assumption, by first | assumption | exact IN_ne (by assumption)⟩, IN_append]
          exact hP.append (IntsAre.one' _ _)
        · refine turn_end (σ := List Value × Nat) (ws, n) (by assumption) (by assumption) (List.forall_mem_cons.mpr ⟨by (repeat (first | (with_reducible assumption) | (with_reducible exact List.mem_cons_self ..) | (with_reducible refine List.mem_cons_of_mem _ ?_))), by intro p hp; k_ownIn⟩) (by (repeat (first | (with_reducible assumption) | (with_reducible exact List.mem_cons_self ..) | (with_reducible refine List.mem_cons_of_mem _ ?_)))) (by exact List.forall_mem_cons.mpr ⟨n1, n3⟩) (by kst_all) (by intro z h1 h2 h3; (simp only [List.forall_mem_cons, List.not_mem_nil, false_implies, implies_true, and_true, ne_eq] at h2); first | (simp only [kstB, h1, h2, List.contains_nil, if_false, Bool.false_eq_true, reduceIte]; done) | ((have h4 := h3); (simp only [List.contains_cons, List.contains_nil, Bool.or_false, Bool.or_eq_false_iff, beq_eq_false_iff_ne, ne_eq] at h4); (simp only [kstB, h1, h2, h3, h4, if_false, Bool.false_eq_true, reduceIte]; done))) ?_
          dsimp only
          rw [cutsL_no (fun hc => by
            obtain ⟨q1, q2, q3, q4⟩ := hc
            first | omega | exact absurd q4 (by assumption) | exact q4 (IN_eq (by assumption)) | exact q4 (IN_eq' (by assumption)))]
          exact hP
    all_goals try rw [StopG.eq]
    all_goals (refine turn_end (σ := List Value × Nat) (ws, n) (by assumption) (by assumption) (List.forall_mem_cons.mpr ⟨by (repeat (first | (with_reducible assumption) | (with_reducible exact List.mem_cons_self ..) | (with_reducible refine List.mem_cons_of_mem _ ?_))), by intro p hp; k_ownIn⟩) (by (repeat (first | (with_reducible assumption) | (with_reducible exact List.mem_cons_self ..) | (with_reducible refine List.mem_cons_of_mem _ ?_)))) (by exact List.forall_mem_cons.mpr ⟨n1, n3⟩) (by kst_all) (by intro z h1 h2 h3; (simp only [List.forall_mem_cons, List.not_mem_nil, false_implies, implies_true, and_true, ne_eq] at h2); first | (simp only [kstB, h1, h2, List.contains_nil, if_false, Bool.false_eq_true, reduceIte]; done) | ((have h4 := h3); (simp only [List.contains_cons, List.contains_nil, Bool.or_false, Bool.or_eq_false_iff, beq_eq_false_iff_ne, ne_eq] at h4); (simp only [kstB, h1, h2, h3, h4, if_false, Bool.false_eq_true, reduceIte]; done))) ?_)
    all_goals dsimp only
    all_goals (rw [cutsL_no (fun hc => by
      obtain ⟨q1, q2, q3, q4⟩ := hc
      first | omega | exact absurd q2 (by assumption) | exact absurd q3 (by assumption) | exact absurd q4 (by assumption) | exact q4 (IN_eq (by assumption)) | exact q4 (IN_eq' (by assumption)))])
    all_goals exact hP
  case done =>
    rintro ⟨ws, n⟩ u9 h9 tk9 hP F' N'
    dsimp only at *
    have hcl := cutsL_len codes codes.length
    k_steps
    have hq1 := hz
    have hM : _ = extK codes := min_ext (by assumption) (by assumption)
    subst hM
    unfold Stop
    refine' comp_eval (K := ItemKind.int) (fun n => decide (n ≠ 46 ∧ n ≠ 47)) (PyData.int) (by assumption) ?hh ?hclos ?hcell ?hkind ?hnames ?hx ?hs ?h
    case hh => with_unfolding_all rfl
    case hclos => with_unfolding_all rfl
    case hcell => decide
    case hkind => with_unfolding_all rfl
    case hnames => decide
    case hx => with_unfolding_all rfl
    case hs => intro _; with_unfolding_all rfl
    k_steps
    unfold Stop
    refine' ⟨_, _, _, _, _, rfl, ?hmm, ?haa, ?hll, ?hFF, ?hNN, ?_, ?_, ?_⟩
    case hNN => assumption
    case hFF => assumption
    case hmm => (repeat (first | (with_reducible assumption) | (with_reducible exact List.mem_cons_self ..) | (with_reducible refine List.mem_cons_of_mem _ ?_)))
    case haa => exact (IntsAre.areOf (by assumption))
    case hll => exact (by rw [IN_length]; omega)
    · rintro C a v s₂ m₂ E' ha ⟨t8, rfl⟩ F8 hk8 hm
      have hn8 := F8.ns
      k_steps
      all_goals first | exact Keeps.toks _ | exact Keeps.rfl' | (rw [decide_eq_true (by omega)]) | (rw [decide_eq_false (by omega)])
    · rintro C a v s₂ m₂ E' ha ⟨t8, rfl⟩ _ F8 hk8 hm
      have hn8 := F8.ns
      k_steps
      all_goals first | exact Keeps.toks _ | exact Keeps.rfl' | exact Carried.int _ _
    · intro D ys h' tk n' N hne2 F hca
      have hI9 := carried_ints hca
      rw [List.map_id', IN_filter _ (fun c => decide (c ≠ 46 ∧ c ≠ 47)) nat4647] at hI9
      have hfl := List.length_filter_le (fun c => decide (c ≠ 46 ∧ c ≠ 47)) more
      have htk : (codes.take (extK codes)).length ≤ codes.length := by rw [List.length_take]; omega
      have htn := tlL_length (codes.take (extK codes))
      have hzo : (codes.take (extK codes) ++ ([46] ++ more.filter fun c => decide (c ≠ 46 ∧ c ≠ 47))).length ≤ 4096 := by
        rw [List.length_append, List.length_append, List.length_singleton]; omega
      have hs1 : OkK k (codes.take (extK codes) ++ ([46] ++ more.filter fun c => decide (c ≠ 46 ∧ c ≠ 47))) := other_sub hcc hcm (lim46 k) (fun c hc => List.mem_of_mem_take hc)
      have hs2 : OkK k (tlL (codes.take (extK codes)) ++ ([46] ++ more.filter fun c => decide (c ≠ 46 ∧ c ≠ 47))) := other_sub hcc hcm (lim46 k) (fun c hc => List.mem_of_mem_take (List.mem_of_mem_drop hc))
      have hs3 : OkK k (codes.take (extK codes)) := fun c hc => hcc c (List.mem_of_mem_take hc)
      have hs4 : OkK k (codes.drop (codes.take (extK codes)).length) := fun c hc => hcc c (List.mem_of_mem_drop hc)
      have hzo' : (codes.take (extK codes) ++ 46 :: more.filter fun c => decide (c ≠ 46 ∧ c ≠ 47)).length ≤ 4096 := hzo
      have hs1' : OkK k (codes.take (extK codes) ++ 46 :: more.filter fun c => decide (c ≠ 46 ∧ c ≠ 47)) := hs1
      have hs2' : OkK k (tlL (codes.take (extK codes)) ++ 46 :: more.filter fun c => decide (c ≠ 46 ∧ c ≠ 47)) := hs2
      k_steps
      · exact absurd (show _ ∧ _ from ⟨head_other codes more, tl_other codes more⟩) (by assumption)
      try with_reducible show Stop _
      unfold Stop
      refine' comp_eval (K := ItemKind.int) (fun n => decide (n ≠ 46)) (PyData.int) (by assumption) ?hh ?hclos ?hcell ?hkind ?hnames ?hx ?hs ?h
      case hh => with_unfolding_all rfl
      case hclos => with_unfolding_all rfl
      case hcell => decide
      case hkind => with_unfolding_all rfl
      case hnames => decide
      case hx => with_unfolding_all rfl
      case hs => intro _; with_unfolding_all rfl
      k_steps
      unfold Stop
      refine' ⟨_, _, _, _, _, rfl, ?hmm, ?haa, ?hll, ?hFF, ?hNN, ?_, ?_, ?_⟩
      case hNN => assumption
      case hFF => assumption
      case hmm => (repeat (first | (with_reducible assumption) | (with_reducible exact List.mem_cons_self ..) | (with_reducible refine List.mem_cons_of_mem _ ?_)))
      case haa => exact (IntsAre.areOf (by assumption))
      case hll => exact (by rw [IN_length]; omega)
      · rintro C a v s₂ m₂ E' ha ⟨t8, rfl⟩ F8 hk8 hm
        have hn8 := F8.ns
        k_steps
        all_goals first | exact Keeps.toks _ | exact Keeps.rfl' | exact int_bne _ _
      · rintro C a v s₂ m₂ E' ha ⟨t8, rfl⟩ _ F8 hk8 hm
        have hn8 := F8.ns
        k_steps
        all_goals first | exact Keeps.toks _ | exact Keeps.rfl' | exact Carried.int _ _
      · intro D ys h' tk n' N hne2 F hca
        have hI9 := carried_ints hca
        rw [List.map_id', IN_filter _ (· != 46) nat46] at hI9
        k_steps
        all_goals first
          | exact absurd (ext_fin1 (by assumption)) (by assumption)
          | exact absurd (ext_fin2 (by assumption)) (by assumption)
          | (refine hret [] _ _ _ ⟨rfl, ?_⟩ no_led (by k_asm) (cb_drop (by assumption) (by intro p hp; k_ownIn)); rw [decide_eq_true (ext_fin3 codes)])
theorem right_S (news : List (Addr × Obj)) (lc lm : Addr) (vc vm : List Value) (nc nm : Nat) (codes more : List Nat) (t : Tok) (hlc : (lc, listOf vc.toArray nc) ∈ news) (hlm : (lm, listOf vm.toArray nm) ∈ news) (hic : IntsAre vc (IN codes)) (him : IntsAre vm (IN more)) (hz : codes.length + more.length ≤ 40) (hcc : Cps codes) (hcm : Cps more) : Spec PySem.Challenge.rw_ko0129_01.row.prog Mine.hd.view_39 Mine.hd.heap_39 156 20 160 [.ref lc, .ref lm, .int 0 t] news (fun led v => led = [] ∧ v = .bool true) :=
  right_K news false lc lm vc vm nc nm codes more t hlc hlm hic him hz (fun c hc => hcc c hc) (fun c hc => hcm c hc)
theorem right_B (news : List (Addr × Obj)) (lc lm : Addr) (vc vm : List Value) (nc nm : Nat) (codes more : List Nat) (t : Tok) (hlc : (lc, listOf vc.toArray nc) ∈ news) (hlm : (lm, listOf vm.toArray nm) ∈ news) (hic : IntsAre vc (IN codes)) (him : IntsAre vm (IN more)) (hz : codes.length + more.length ≤ 40) (hcc : Small codes) (hcm : Small more) : Spec PySem.Challenge.rw_ko0129_01.row.prog Mine.hd.view_39 Mine.hd.heap_39 156 20 160 [.ref lc, .ref lm, .int 1 t] news (fun led v => led = [] ∧ v = .bool true) :=
  right_K news true lc lm vc vm nc nm codes more t hlc hlm hic him hz (fun c hc => Nat.le_of_lt_succ (hcc c hc)) (fun c hc => Nat.le_of_lt_succ (hcm c hc))
local macro_rules | `(tactic| walk_at "call ref") => `(tactic| (k_here; (with_reducible show wpAny _ _ (call (Value.ref 139) [Value.ref _]) _ _ _); k_dflt (refine' SpecP.use2 (by k_asm) (by k_asm) (by k_asm) (by k_asm) (by k_asm) (by first | exact rfl | assumption) (signs_ok _ _ _ _ ?p1) (by ktr_room) (by ktr_units) ?hp ?_; (case hp => first | assumption | exact list_up (by assumption) (Fr.keep (by assumption)) | is_list); (case p1 => with_reducible assumption); k_whole); intro led' v' h' tk' hR' hfr' F' N'; (obtain ⟨q', lc', lm', vc', vm', nc', nm2', codes', more', hV', hL', hi1', hi2', hz', hc1', hc2', ho1', ho2'⟩ := hR'); subst hV'; subst hL'; (have hfr2 := hfr' _ (List.Mem.head _)); (have hfr3 := hfr' _ (List.Mem.tail _ (List.Mem.head _))); (have hfr4 := hfr' _ (List.Mem.tail _ (List.Mem.tail _ (List.Mem.head _)))); (try k_lt hfr2); (try k_lt hfr3); (try k_lt hfr4); (try simp only [List.nil_append, List.cons_append] at F' N'); (try clear hfr'); k_sweep))
local macro_rules | `(tactic| walk_at "call ref") => `(tactic| (k_here; (with_reducible show wpAny _ _ (call (Value.ref 156) [Value.ref _, Value.ref _, Value.int 0 _]) _ _ _); k_dflt (refine' Spec.use2 (by k_asm) (by k_asm) (by k_asm) (by k_asm) (by k_asm) (by first | exact rfl | assumption) (right_S _ _ _ _ _ _ _ _ _ _ ?p1 ?p2 ?p3 ?p4 ?p5 ?p6 ?p7) (by ktr_room) (by ktr_units) ?_; (case p1 => walk_at "kk MEM"); (case p2 => walk_at "kk MEM"); (case p3 => walk_at "kk INF"); (case p4 => walk_at "kk INF"); (case p5 => first | assumption | omega | ((simp only [List.length_map]); omega)); (case p6 => first | assumption | exact by8_small _); (case p7 => first | assumption | exact by8_small _); k_whole); intro led' v' h' tk' hR' hfr' F' N'; (obtain ⟨hL', hV'⟩ := hR'); subst hL' hV'; (try simp only [List.nil_append, List.cons_append] at F' N'); (try clear hfr'); k_sweep))
local macro_rules | `(tactic| walk_at "call ref") => `(tactic| (k_here; (with_reducible show wpAny _ _ (call (Value.ref 156) [Value.ref _, Value.ref _, Value.int 1 _]) _ _ _); k_dflt (refine' Spec.use2 (by k_asm) (by k_asm) (by k_asm) (by k_asm) (by k_asm) (by first | exact rfl | assumption) (right_B _ _ _ _ _ _ _ _ _ _ ?p1 ?p2 ?p3 ?p4 ?p5 ?p6 ?p7) (by ktr_room) (by ktr_units) ?_; (case p1 => walk_at "kk MEM"); (case p2 => walk_at "kk MEM"); (case p3 => walk_at "kk INF"); (case p4 => walk_at "kk INF"); (case p5 => first | assumption | omega | ((simp only [List.length_map]); omega)); (case p6 => first | assumption | exact by8_small _); (case p7 => first | assumption | exact by8_small _); k_whole); intro led' v' h' tk' hR' hfr' F' N'; (obtain ⟨hL', hV'⟩ := hR'); subst hL' hV'; (try simp only [List.nil_append, List.cons_append] at F' N'); (try clear hfr'); k_sweep))
set_option maxRecDepth 100000 in
set_option maxHeartbeats 100000000 in
theorem law_holds : PySem.Challenge.rw_ko0129_01.Holds := Mine.hd (by
  k_go0
  (all_goals try k_fold)
  k_steps
  unfold Stop
  refine' comp_eval (K := ItemKind.int) (fun _ => true) (fun (n : Int) => PyData.int ((n - 1).fmod 255 + 1)) (by assumption) ?hh ?hclos ?hcell ?hkind ?hnames ?hx ?hs ?h
  case hh => with_unfolding_all rfl
  case hclos => with_unfolding_all rfl
  case hcell => decide
  case hkind => with_unfolding_all rfl
  case hnames => decide
  case hx => with_unfolding_all rfl
  case hs => intro _; with_unfolding_all rfl
  k_steps
  unfold Stop
  refine' ⟨_, _, _, _, _, rfl, ?hmm, ?haa, ?hll, ?hFF, ?hNN, ?_, ?_, ?_⟩
  case hNN => assumption
  case hFF => assumption
  case hmm => (repeat (first | (with_reducible assumption) | (with_reducible exact List.mem_cons_self ..) | (with_reducible refine List.mem_cons_of_mem _ ?_)))
  case haa => exact (IntsAre.areOf (by with_reducible assumption))
  case hll => exact (by rw [IN_length]; omega)
  · intro C a v s₂ m₂ E' ha hv F8 hk8 hm
    rfl
  · rintro C a v s₂ m₂ E' ha ⟨t8, rfl⟩ _ F8 hk8 hm
    have hn8 := F8.ns
    k_steps
    all_goals first | exact Keeps.toks _ | exact Keeps.rfl' | exact Carried.int _ _
  · intro D ys h' tk n' N hne2 F hca
    have hI9 := carried_ints (f := fun (n : Int) => (n - 1).fmod 255 + 1) hca
    rw [by8_IN] at hI9
    k_steps
    unfold Stop
    refine' comp_eval (K := ItemKind.int) (fun _ => true) (fun (n : Int) => PyData.int ((n - 1).fmod 255 + 1)) (by assumption) ?hh ?hclos ?hcell ?hkind ?hnames ?hx ?hs ?h
    case hh => with_unfolding_all rfl
    case hclos => with_unfolding_all rfl
    case hcell => decide
    case hkind => with_unfolding_all rfl
    case hnames => decide
    case hx => with_unfolding_all rfl
    case hs => intro _; with_unfolding_all rfl
    k_steps
    unfold Stop
    refine' ⟨_, _, _, _, _, rfl, ?hmm, ?haa, ?hll, ?hFF, ?hNN, ?_, ?_, ?_⟩
    case hNN => assumption
    case hFF => assumption
    case hmm => (repeat (first | (with_reducible assumption) | (with_reducible exact List.mem_cons_self ..) | (with_reducible refine List.mem_cons_of_mem _ ?_)))
    case haa => exact (IntsAre.areOf (by with_reducible assumption))
    case hll => exact (by rw [IN_length]; omega)
    · intro C a v s₂ m₂ E' ha hv F8 hk8 hm
      rfl
    · rintro C a v s₂ m₂ E' ha ⟨t8, rfl⟩ _ F8 hk8 hm
      have hn8 := F8.ns
      k_steps
      all_goals first | exact Keeps.toks _ | exact Keeps.rfl' | exact Carried.int _ _
    · intro D ys h' tk n' N hne2 F hca
      have hI9 := carried_ints (f := fun (n : Int) => (n - 1).fmod 255 + 1) hca
      rw [by8_IN] at hI9
      k_steps
      all_goals try rw [StopG.eq]
      all_goals exact goodW_bool (by first | with_reducible assumption | assumption) (by with_reducible assumption) (raisesW_false (by wrow_none_raised)) (by wrow_post))
end Mine
theorem PySem.Challenge.cw_ko0129_01_holds : PySem.Challenge.rw_ko0129_01.Holds := by
  exact Mine.law_holds
#print axioms PySem.Challenge.cw_ko0129_01_holds
