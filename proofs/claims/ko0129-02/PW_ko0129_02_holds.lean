import PyProof.Rows.All
import Wide.All
import OpenK.AllK
import Wide.FinOn
import Lean
import PySem.Challenge.RW_ko0129_02
open PySem PySem.W PyProof.Rows PySem.Calls
set_option Elab.async false
set_option maxRecDepth 100000
namespace Mine
theorem kind_issub_nested : builtinKind "issubclass.nested" = none := by decide +kernel
theorem plain_issub_nested : plainId "issubclass.nested" = true := by decide +kernel
theorem args_issub_nested_3 (a b c : Value) : argsOk "issubclass.nested" ⟨[a, b, c], []⟩ := by unfold argsOk; kernel_rfl
theorem sub_str_str : isSubtype (.type "str") (.type "str") = pure true := by rw [isSubtype_type]; kernel_rfl
theorem sub_bytes_str : isSubtype (.type "bytes") (.type "str") = pure false := by rw [isSubtype_type]; kernel_rfl
theorem sub_bytes_bytes : isSubtype (.type "bytes") (.type "bytes") = pure true := by rw [isSubtype_type]; kernel_rfl
theorem ty_str : typeOf (.type "str") = pure (.type "type") := rfl
theorem ty_bytes : typeOf (.type "bytes") = pure (.type "type") := rfl

section
variable {prog : Program} {w : World} {A : Around} {E : Value → Shared → Prop}
theorem issub_nested_type {X T : String} {b : Bool} {dep : Int} {tk : Tok} {s : Shared} {Q : Fin → Shared → Prop} (hX : typeOf (.type X) = pure (.type "type")) (hT : typeOf (.type T) = pure (.type "type"))
    (hs : isSubtype (.type X) (.type T) = pure b) (hq : Q (.done (.ret (.bool b))) s) :
    wpAny (model prog w) A (Builtin.«issubclass.nested» ⟨[.type X, .type T, .int dep tk], []⟩) Q E s := by
  repeat (any_goals (first | assumption | (rw [hs]) | wp_step))
theorem issub_meets {X T : String} {b : Bool} {dep : Int} {tk : Tok} (hX : typeOf (.type X) = pure (.type "type")) (hT : typeOf (.type T) = pure (.type "type")) (hs : isSubtype (.type X) (.type T) = pure b) :
    Meets (Builtin.«issubclass.nested» ⟨[.type X, .type T, .int dep tk], []⟩) (fun _ R s => R (.ok (.ret (.bool b))) s) := fun _ _ _ _ _ h => issub_nested_type hX hT hs h

theorem issub_nested_sb {X : String} {b b2 : Bool} {tp : Addr} {n : Nat} {tk : Tok} {s : Shared} {Q : Fin → Shared → Prop} (hX : typeOf (.type X) = pure (.type "type"))
    (htp : s.heap.get? tp = some { cls := .type "tuple", data := .seq #[.type "str", .type "bytes"] n }) (h1 : isSubtype (.type X) (.type "str") = pure b) (h2 : isSubtype (.type X) (.type "bytes") = pure b2) (hb : (b || b2) = true)
    (hq : ∀ tk', Q (.done (.ret (.bool true))) { s with toks := tk' }) : wpAny (model prog w) A (Builtin.«issubclass.nested» ⟨[.type X, .ref tp, .int 0 tk], []⟩) Q E s := by
  obtain ⟨h, g, d, t, os⟩ := s
  have hT2 : (⟨h, g, d, t, os⟩ : Shared).TypeIs (.ref tp) "tuple" := ⟨_, htp, rfl⟩
  have f1 := F.isi_sub_tuple
  have g1 := fun dep tk => issub_meets (dep := dep) (tk := tk) hX ty_str h1
  have g2 := fun dep tk => issub_meets (dep := dep) (tk := tk) hX ty_bytes h2
  have c1 : ∀ (s : Shared) (Q : Value → Shared → Prop) (dep : Int), Q (.bool b) s → wpAny (model prog w) A (call (.builtin "issubclass.nested") [.type X, .type "str", rawInt dep]) Q E s := fun s Q dep hq =>
    call_function_meets kind_issub_nested plain_issub_nested F.entry_issubclass_nested (args_issub_nested_3 _ _ _) (g1 _ _) hq
  have c2 : ∀ (s : Shared) (Q : Value → Shared → Prop) (dep : Int), Q (.bool b2) s → wpAny (model prog w) A (call (.builtin "issubclass.nested") [.type X, .type "bytes", rawInt dep]) Q E s := fun s Q dep hq =>
    call_function_meets kind_issub_nested plain_issub_nested F.entry_issubclass_nested (args_issub_nested_3 _ _ _) (g2 _ _) hq
  cases b with
  | true => repeat (any_goals (first | assumption | exact hq _ | (refine c1 _ _ _ ?_) | wp_step))
  | false =>
    cases b2 with
    | false => cases hb
    | true => repeat (any_goals (first | assumption | exact hq _ | (refine c1 _ _ _ ?_) | (refine c2 _ _ _ ?_) | wp_step))
theorem issub_sb_call {X : String} {b b2 : Bool} {tp : Addr} {n : Nat} {s : Shared} {Q : Value → Shared → Prop} (hX : typeOf (.type X) = pure (.type "type"))
    (htp : s.heap.get? tp = some { cls := .type "tuple", data := .seq #[.type "str", .type "bytes"] n }) (h1 : isSubtype (.type X) (.type "str") = pure b) (h2 : isSubtype (.type X) (.type "bytes") = pure b2) (hb : (b || b2) = true)
    (hq : ∀ tk', Q (.bool true) { s with toks := tk' }) : wpAny (model prog w) A (call (.builtin "issubclass") [.type X, .ref tp]) Q E s :=
  call_issubclass (S := fun _ R s => s.heap.get? tp = some { cls := .type "tuple", data := .seq #[.type "str", .type "bytes"] n } ∧ ∀ tk', R (.ok (.ret (.bool true))) { s with toks := tk' })
    (fun _ _ _ _ _ hs => issubclass_outer (issub_nested_sb hX hs.1 h1 h2 hb hs.2)) ⟨htp, hq⟩
theorem issub_str {tp : Addr} {n : Nat} {s : Shared} {Q : Value → Shared → Prop}
    (htp : s.heap.get? tp = some { cls := .type "tuple", data := .seq #[.type "str", .type "bytes"] n }) 
    (hq : ∀ tk', Q (.bool true) { s with toks := tk' }) : wpAny (model prog w) A (call (.builtin "issubclass") [.type "str", .ref tp]) Q E s :=
  issub_sb_call (b2 := false) ty_str htp sub_str_str (by rw [isSubtype_type]; kernel_rfl) rfl hq
theorem issub_bytes {tp : Addr} {n : Nat} {s : Shared} {Q : Value → Shared → Prop}
    (htp : s.heap.get? tp = some { cls := .type "tuple", data := .seq #[.type "str", .type "bytes"] n }) 
    (hq : ∀ tk', Q (.bool true) { s with toks := tk' }) : wpAny (model prog w) A (call (.builtin "issubclass") [.type "bytes", .ref tp]) Q E s :=
  issub_sb_call ty_bytes htp sub_bytes_str sub_bytes_bytes rfl hq
end
/-- what a call of the def at f hands back: R of the new ledger and of the value -/
noncomputable def Spec (prog p : Program) (K : Params → Frag) (f : Addr) (d u : Nat) (vs : List Value) (news : List (Addr × Obj)) (R : List (Addr × Obj) → Value → Prop) : Prop :=
  ∀ (w : World) (loose : List Str) (mean : ExcName → Option Value) (mg mb : Str → Option Value) (dp un : Nat) (gd : Option (List Code)) (cn : Str) (cs : Scope) (a : Addr) (ccd : Value) (cl : List (Str × Addr)) (outer : List Env) (A₀ : Around) (base h₀ : Heap) (L : Addr) (m : Str → Option Value) (s : Shared) (Q E : Value → Shared → Prop),
    Below A₀ base outer h₀ → Fr h₀ L s.heap m → (K w.params).In h₀ → News h₀ L s.heap news → Top p loose mean mg mb h₀ → cs.kind = .function →
    dp + d < recursionLimit → un + u < cLine →
    (∀ led v h' tk', R led v → (∀ q ∈ led, ∀ p ∈ news, p.1 < q.1) → Fr h₀ L h' m → News h₀ L h' (led ++ news) → Q v { s with heap := h', toks := tk' }) →
    wpAny (model prog w) (ktrTop dp un gd cn cs L a ccd cl outer) (call (.ref f) vs) Q E s
theorem Spec.use2 {prog p : Program} {K : Params → Frag} {f : Addr} {d u : Nat} {vs : List Value} {news : List (Addr × Obj)} {R : List (Addr × Obj) → Value → Prop}
    {w : World} {loose : List Str} {mean : ExcName → Option Value} {mg mb : Str → Option Value} {dp un : Nat} {gd : Option (List Code)} {cn : Str} {cs : Scope} {a : Addr} {ccd : Value} {cl : List (Str × Addr)} {outer : List Env} {A₀ : Around} {base h₀ : Heap} {L : Addr} {m : Str → Option Value} {s : Shared} {Q E : Value → Shared → Prop}
    (B : Below A₀ base outer h₀) (F : Fr h₀ L s.heap m) (X : (K w.params).In h₀) (N : News h₀ L s.heap news) (T : Top p loose mean mg mb h₀) (hk : cs.kind = .function) (S : Spec prog p K f d u vs news R)
    (hd : dp + d < recursionLimit) (hu : un + u < cLine)
    (ret : ∀ led v h' tk', R led v → (∀ q ∈ led, ∀ p ∈ news, p.1 < q.1) → Fr h₀ L h' m → News h₀ L h' (led ++ news) → Q v { s with heap := h', toks := tk' }) :
    wpAny (model prog w) (ktrTop dp un gd cn cs L a ccd cl outer) (call (.ref f) vs) Q E s :=
  S w loose mean mg mb dp un gd cn cs a ccd cl outer A₀ base h₀ L m s Q E B F X N T hk hd hu ret
theorem Spec.weak {prog p : Program} {K : Params → Frag} {f : Addr} {d u : Nat} {vs : List Value} {news : List (Addr × Obj)} {R R2 : List (Addr × Obj) → Value → Prop} (S : Spec prog p K f d u vs news R) (h : ∀ led v, R led v → R2 led v) : Spec prog p K f d u vs news R2 :=
  fun w loose mean mg mb dp un gd cn cs a ccd cl outer A₀ base h₀ L m s Q E B F X N T hk hd hu ret => S w loose mean mg mb dp un gd cn cs a ccd cl outer A₀ base h₀ L m s Q E B F X N T hk hd hu fun led v h' tk' hR => ret led v h' tk' (h led v hR)
/-- the same with a word of the caller's ground -/
noncomputable def SpecP (prog p : Program) (K : Params → Frag) (f : Addr) (d u : Nat) (vs : List Value) (news : List (Addr × Obj)) (pre : Heap → Prop) (R : List (Addr × Obj) → Value → Prop) : Prop :=
  ∀ (w : World) (loose : List Str) (mean : ExcName → Option Value) (mg mb : Str → Option Value) (dp un : Nat) (gd : Option (List Code)) (cn : Str) (cs : Scope) (a : Addr) (ccd : Value) (cl : List (Str × Addr)) (outer : List Env) (A₀ : Around) (base h₀ : Heap) (L : Addr) (m : Str → Option Value) (s : Shared) (Q E : Value → Shared → Prop),
    Below A₀ base outer h₀ → Fr h₀ L s.heap m → (K w.params).In h₀ → News h₀ L s.heap news → Top p loose mean mg mb h₀ → cs.kind = .function →
    dp + d < recursionLimit → un + u < cLine → pre h₀ →
    (∀ led v h' tk', R led v → (∀ q ∈ led, ∀ p ∈ news, p.1 < q.1) → Fr h₀ L h' m → News h₀ L h' (led ++ news) → Q v { s with heap := h', toks := tk' }) →
    wpAny (model prog w) (ktrTop dp un gd cn cs L a ccd cl outer) (call (.ref f) vs) Q E s
theorem SpecP.use2 {prog p : Program} {K : Params → Frag} {f : Addr} {d u : Nat} {vs : List Value} {news : List (Addr × Obj)} {pre : Heap → Prop} {R : List (Addr × Obj) → Value → Prop}
    {w : World} {loose : List Str} {mean : ExcName → Option Value} {mg mb : Str → Option Value} {dp un : Nat} {gd : Option (List Code)} {cn : Str} {cs : Scope} {a : Addr} {ccd : Value} {cl : List (Str × Addr)} {outer : List Env} {A₀ : Around} {base h₀ : Heap} {L : Addr} {m : Str → Option Value} {s : Shared} {Q E : Value → Shared → Prop}
    (B : Below A₀ base outer h₀) (F : Fr h₀ L s.heap m) (X : (K w.params).In h₀) (N : News h₀ L s.heap news) (T : Top p loose mean mg mb h₀) (hk : cs.kind = .function) (S : SpecP prog p K f d u vs news pre R)
    (hd : dp + d < recursionLimit) (hu : un + u < cLine) (hp : pre h₀)
    (ret : ∀ led v h' tk', R led v → (∀ q ∈ led, ∀ p ∈ news, p.1 < q.1) → Fr h₀ L h' m → News h₀ L h' (led ++ news) → Q v { s with heap := h', toks := tk' }) :
    wpAny (model prog w) (ktrTop dp un gd cn cs L a ccd cl outer) (call (.ref f) vs) Q E s :=
  S w loose mean mg mb dp un gd cn cs a ccd cl outer A₀ base h₀ L m s Q E B F X N T hk hd hu hp ret
theorem list_up {h₀ h : Heap} {l : Addr} {vs : List Value} (hl : h₀.IsList l vs.toArray) (k : ∀ b o, h₀.get? b = some o → h.get? b = some o) : h.IsList l vs.toArray := hl.at fun o e => k _ o e
abbrev tupO (vs : List Value) : Obj := { cls := .type "tuple", data := .seq vs.toArray }
theorem no_led {news : List (Addr × Obj)} : ∀ q ∈ ([] : List (Addr × Obj)), ∀ p ∈ news, p.1 < q.1 := fun _ h => nomatch h
theorem allLt_mem {d : Addr} : ∀ {l : List (Addr × Obj)}, AllLt d l → ∀ p ∈ l, p.1 < d
  | [], _, _, hp => absurd hp (List.not_mem_nil)
  | q :: l, h, p, hp => (List.mem_cons.mp hp).elim (fun e => by rw [e]; exact h.1) (fun hp => allLt_mem h.2 p hp)
theorem hret_one {news newsN : List (Addr × Obj)} {h₀ h' : Heap} {L : Addr} {m : Str → Option Value} {s : Shared} {Q : Value → Shared → Prop} {R : List (Addr × Obj) → Value → Prop} {q : Addr} {o : Obj} {tk' : Nat}
    (hret : ∀ led v h' tk', R led v → (∀ q ∈ led, ∀ p ∈ news, p.1 < q.1) → Fr h₀ L h' m → News h₀ L h' (led ++ news) → Q v { s with heap := h', toks := tk' })
    (F : Fr h₀ L h' m) (N : News h₀ L h' ((q, o) :: newsN)) (hR : R [(q, o)] (.ref q)) (hf : ∀ p ∈ news, p.1 < q) (hs : ∀ p ∈ news, p ∈ newsN) : Q (.ref q) { s with heap := h', toks := tk' } :=
  hret _ _ _ _ hR (fun q' hq p hp => by rw [List.mem_singleton.mp hq]; exact hf p hp) F (cb_drop N fun p hp => List.mem_cons.mpr ((List.mem_cons.mp hp).imp id (hs p)))
end Mine
namespace Mine
/-! plain lists of signs' numbers, and the texts and bytes that they are -/
noncomputable def mkS (l : List Nat) : Str := ⟨l.toArray⟩
noncomputable def mkB (l : List Nat) : Array UInt8 := (l.map Nat.toUInt8).toArray
noncomputable def Small (l : List Nat) : Prop := ∀ c ∈ l, c < 256
noncomputable def pySl (l : List Nat) (lo hi : Option Int) : List Nat := (l.drop (lo.elim 0 (clipAt l.length))).take (hi.elim l.length (clipAt l.length) - lo.elim 0 (clipAt l.length))
noncomputable def tailL (c : Nat) (l : List Nat) : List Nat := (l.reverse.takeWhile (fun x => x != c)).reverse
/-- behind the last c -/
noncomputable def cutL (c : Nat) (l : List Nat) : Nat := l.length - (tailL c l).length
noncomputable def rstL (c : Nat) (l : List Nat) : List Nat := (l.reverse.dropWhile (fun x => x == c)).reverse
noncomputable def lstL (c : Nat) (l : List Nat) : List Nat := l.dropWhile (fun x => x == c)

theorem mkS_length (l : List Nat) : (mkS l).length = l.length := by simp [mkS, Str.length]
theorem mkS_cps (l : List Nat) : (mkS l).cps.toList = l := by simp [mkS]
theorem mkS_eta (x : Str) : mkS x.cps.toList = x := by simp [mkS]
theorem mkB_size (l : List Nat) : (mkB l).size = l.length := by simp [mkB]
theorem toUInt8_inj {a b : Nat} (ha : a < 256) (hb : b < 256) (h : a.toUInt8 = b.toUInt8) : a = b := by
  have h1 : a.toUInt8.toNat = b.toUInt8.toNat := by rw [h]
  simp at h1
  omega
theorem map_u8_inj : ∀ {a b : List Nat}, Small a → Small b → a.map Nat.toUInt8 = b.map Nat.toUInt8 → a = b
  | [], [], _, _, _ => rfl
  | [], _ :: _, _, _, h => by cases h
  | _ :: _, [], _, _, h => by cases h
  | x :: a, y :: b, ha, hb, h => by
    simp only [List.map_cons, List.cons.injEq] at h
    rw [toUInt8_inj (ha x (.head _)) (hb y (.head _)) h.1, map_u8_inj (fun c hc => ha c (.tail _ hc)) (fun c hc => hb c (.tail _ hc)) h.2]
theorem mkB_inj {a b : List Nat} (ha : Small a) (hb : Small b) (h : mkB a = mkB b) : a = b := map_u8_inj ha hb (by simpa [mkB] using h)
theorem mkS_inj {a b : List Nat} (h : mkS a = mkS b) : a = b := by simpa [mkS] using h
theorem Small.nil : Small [] := fun _ h => nomatch h
theorem Small.append {a b : List Nat} (ha : Small a) (hb : Small b) : Small (a ++ b) := fun c hc => (List.mem_append.mp hc).elim (ha c) (hb c)
theorem Small.sub {a b : List Nat} (ha : Small a) (h : ∀ c ∈ b, c ∈ a) : Small b := fun c hc => ha c (h c hc)
theorem pySl_mem {l : List Nat} {lo hi : Option Int} {c : Nat} (h : c ∈ pySl l lo hi) : c ∈ l := List.mem_of_mem_drop (List.mem_of_mem_take h)
theorem Small.sl {a : List Nat} (ha : Small a) (lo hi : Option Int) : Small (pySl a lo hi) := ha.sub fun _ => pySl_mem
theorem rstL_mem {l : List Nat} {k c : Nat} (h : c ∈ rstL k l) : c ∈ l := by
  unfold rstL at h
  rw [List.mem_reverse] at h
  exact List.mem_reverse.mp (List.dropWhile_sublist _ |>.mem h)
theorem pySl_length (l : List Nat) (lo hi : Option Int) : (pySl l lo hi).length ≤ l.length := by
  unfold pySl; rw [List.length_take, List.length_drop]; omega
theorem lstL_length (k : Nat) (l : List Nat) : (lstL k l).length ≤ l.length := (List.dropWhile_sublist _).length_le

theorem clip_nat (n k : Nat) : clipAt n (k : Int) = min k n := clipAt_nat n k
theorem pySl_to (l : List Nat) (k : Nat) : pySl l none (some (k : Int)) = l.take k := by
  unfold pySl
  simp only [Option.elim, clip_nat, List.drop_zero, Nat.sub_zero]
  rw [List.take_eq_take_iff]; omega
theorem pySl_from (l : List Nat) (k : Nat) : pySl l (some (k : Int)) none = l.drop k := by
  unfold pySl
  simp only [Option.elim, clip_nat]
  rw [List.take_of_length_le (by rw [List.length_drop]; omega)]
  by_cases h : k ≤ l.length
  · rw [Nat.min_eq_left h]
  · rw [List.drop_of_length_le (by omega), List.drop_of_length_le (by omega)]
theorem pySl_ft (l : List Nat) (a b : Nat) : pySl l (some (a : Int)) (some (b : Int)) = (l.drop a).take (b - a) := by
  unfold pySl
  simp only [Option.elim, clip_nat]
  by_cases h : a ≤ l.length
  · rw [Nat.min_eq_left h, List.take_eq_take_iff, List.length_drop]; omega
  · rw [List.drop_of_length_le (show l.length ≤ min a l.length by omega), List.drop_of_length_le (show l.length ≤ a by omega)]; simp

theorem sliceIdx_eq (lo hi : Option Int) (n : Nat) : Builtin.Str.strSliceIndices lo hi 1 n = sliceRange ((lo.elim 0 (clipAt n) : Nat) : Int) ((hi.elim n (clipAt n) : Nat) : Int) 1 := by
  unfold Builtin.Str.strSliceIndices
  cases lo <;> cases hi <;> simp [clipAt_cast]
theorem clipAt_le (n : Nat) (i : Int) : clipAt n i ≤ n := by
  have h := clipAt_cast n i
  omega
theorem slice_mkS (l : List Nat) (lo hi : Option Int) : Txt.slice (mkS l) lo hi = mkS (pySl l lo hi) := by
  have hb : hi.elim l.length (clipAt l.length) ≤ l.length := by cases hi with
    | none => exact Nat.le_refl _
    | some i => exact clipAt_le _ _
  unfold Txt.slice
  rw [sliceIdx_eq, sliceRange_one, mkS_length]
  split
  · rename_i h
    simp at h
    have e : pySl l lo hi = l := by
      unfold pySl
      generalize hA : lo.elim 0 (clipAt l.length) = a at *
      generalize hB : hi.elim l.length (clipAt l.length) = b at *
      have h2 : (b : Nat) - a = l.length := h
      rw [h2]
      rcases Nat.eq_zero_or_pos l.length with h0 | h0
      · rw [List.length_eq_zero_iff.mp h0]; simp
      · have ha : a = 0 := by omega
        rw [ha]; simp
    rw [e]
  · rw [pick_run, mkS_cps]; rfl
theorem picked_mkB (l : List Nat) (lo hi : Option Int) : KBy.picked (mkB l) lo hi = mkB (pySl l lo hi) := by
  rw [KBc.picked_eq]
  unfold mkB pySl
  simp [List.map_take, List.map_drop]

/-! the last place of a sign -/
theorem cutL_nil (c : Nat) : cutL c [] = 0 := rfl
theorem cutL_snoc (c : Nat) (l : List Nat) (x : Nat) : cutL c (l ++ [x]) = if x = c then l.length + 1 else cutL c l := by
  unfold cutL tailL
  rw [List.reverse_append, List.reverse_cons, List.reverse_nil, List.nil_append, List.singleton_append, List.takeWhile_cons]
  by_cases h : x = c
  · simp [h]
  · simp [h]
theorem cutL_le (c : Nat) (l : List Nat) : cutL c l ≤ l.length := Nat.sub_le _ _
theorem snocRec {P : List Nat → Prop} (h0 : P []) (h1 : ∀ l x, P l → P (l ++ [x])) (l : List Nat) : P l := by
  have h : ∀ r : List Nat, P r.reverse := by
    intro r
    induction r with
    | nil => exact h0
    | cons x r ih => rw [List.reverse_cons]; exact h1 _ _ ih
  have := h l.reverse
  rwa [List.reverse_reverse] at this
theorem cutL_pos (c : Nat) (l : List Nat) : 0 < cutL c l → l[cutL c l - 1]? = some c := by
  induction l using snocRec with
  | h0 => intro h; exact absurd h (by simp [cutL_nil])
  | h1 l x ih =>
    rw [cutL_snoc]
    split
    · rename_i h; intro _; simp [h]
    · intro h
      have := ih h
      rw [List.getElem?_append_left (by have := cutL_le c l; omega)]
      exact this
theorem cutL_behind (c : Nat) (l : List Nat) : ∀ i, cutL c l ≤ i → l[i]? ≠ some c := by
  induction l using snocRec with
  | h0 => intro i _; simp
  | h1 l x ih =>
    rw [cutL_snoc]
    intro i hi
    split at hi
    · rw [List.getElem?_eq_none (by simp; omega)]; simp
    · rename_i h
      rcases Nat.lt_or_ge i l.length with h1 | h1
      · rw [List.getElem?_append_left h1]; exact ih i hi
      · rcases Nat.eq_or_lt_of_le h1 with h2 | h2
        · subst h2; simp [h]
        · rw [List.getElem?_eq_none (by simp; omega)]; simp
theorem cutL_unique {c : Nat} {l : List Nat} {k : Nat} (h1 : 0 < k → l[k - 1]? = some c) (h2 : ∀ i, k ≤ i → l[i]? ≠ some c) : k = cutL c l := by
  rcases Nat.lt_trichotomy k (cutL c l) with h | h | h
  · exact absurd (cutL_pos c l (by omega)) (h2 _ (by omega))
  · exact h
  · exact absurd (h1 (by omega)) (cutL_behind c l _ (by omega))
theorem subAt_one (l : List Nat) (c i : Nat) : Builtin.Str.subAt (mkS l) (mkS [c]) i = true ↔ l[i]? = some c := by
  rw [StrLaws.subAt_eq, mkS_cps, mkS_cps, mkS_length, beq_iff_eq]
  show List.take 1 (l.drop i) = [c] ↔ _
  rw [List.take_one, List.head?_drop]
  cases l[i]? <;> simp
theorem at_one (l : List Nat) (c i : Nat) : StrLaws.At (mkS l) (mkS [c]) (mkS l).length i ↔ l[i]? = some c := by
  unfold StrLaws.At
  rw [subAt_one, mkS_length, mkS_length]
  constructor
  · exact fun h => h.2
  · intro h
    obtain ⟨hl, _⟩ := List.getElem?_eq_some_iff.mp h
    exact ⟨hl, h⟩
theorem rfind_mkS (l : List Nat) (c : Nat) : Txt.rfind (mkS l) (mkS [c]) = (cutL c l : Int) - 1 := by
  rcases rfind_whole (mkS l) (mkS [c]) with ⟨h1, h2⟩ | ⟨i, h1, h2, h3⟩
  · rw [h1]
    have : 0 = cutL c l := cutL_unique (fun h => absurd h (Nat.lt_irrefl _)) fun i _ => fun e => h2 i ((at_one l c i).mpr e)
    omega
  · rw [h1]
    have : i + 1 = cutL c l := cutL_unique (fun _ => (at_one l c i).mp h2) fun k hk => fun e => h3 k (by omega) ((at_one l c k).mpr e)
    omega

theorem dropWhile_drop (p : Nat → Bool) : ∀ l : List Nat, l.dropWhile p = l.drop (l.takeWhile p).length
  | [] => rfl
  | x :: l => by
    rw [List.dropWhile_cons, List.takeWhile_cons]
    split
    · rw [List.length_cons, List.drop_succ_cons]; exact dropWhile_drop p l
    · rfl
theorem goes_one (c : Nat) : (mkS [c]).cps.contains = fun x => x == c := by
  funext x
  simp only [mkS, List.contains_toArray]
  simp
  rfl
theorem lstrip_mkS (l : List Nat) (c : Nat) : Txt.lstripChars (mkS l) (mkS [c]) = mkS (lstL c l) := by
  unfold Txt.lstripChars Txt.stripBy stripSame PySem.stripped stripLo stripHi lstL
  rw [goes_one, dropWhile_drop]
  simp only [if_true, Bool.false_eq_true, if_false, mkS_cps, mkS_length, beq_self_eq_true, Bool.and_true, beq_iff_eq]
  split
  · rename_i h
    rw [h, List.drop_zero]
  · unfold Builtin.Str.strSub mkS
    simp
    rw [List.take_of_length_le (by simp)]
/-! bytes -/
theorem mkB_extract (l : List Nat) (i j : Nat) : (mkB l).extract i j = mkB ((l.drop i).take (j - i)) := by
  unfold mkB
  rw [List.extract_toArray, List.extract_eq_take_drop, List.map_take, List.map_drop]
theorem mkB_beq {a b : List Nat} (ha : Small a) (hb : Small b) : (mkB a == mkB b) = (a == b) := by
  by_cases h : a = b
  · subst h; simp
  · rw [beq_eq_false_iff_ne.mpr h, beq_eq_false_iff_ne.mpr fun e => h (mkB_inj ha hb e)]
theorem Small.one {c : Nat} (h : c < 256) : Small [c] := fun x hx => by rw [List.mem_singleton.mp hx]; exact h
theorem rfindB_go (l : List Nat) (c : Nat) (hs : Small l) (hc : c < 256) : ∀ n, n ≤ l.length →
    ((List.range n).map (· + 0)).reverse.find? (fun i => (mkB l).extract i (i + (mkB [c]).size) == mkB [c]) = if cutL c (l.take n) = 0 then none else some (cutL c (l.take n) - 1)
  | 0, _ => by simp [cutL_nil]
  | n + 1, h => by
    have ih := rfindB_go l c hs hc n (by omega)
    have hn : n < l.length := by omega
    have e1 : l.take (n + 1) = l.take n ++ [l[n]] := by simp
    have e2 : ((mkB l).extract n (n + (mkB [c]).size) == mkB [c]) = (l[n] == c) := by
      rw [mkB_extract, mkB_size, mkB_beq (hs.sub fun x hx => List.mem_of_mem_drop (List.mem_of_mem_take hx)) (Small.one hc)]
      rw [List.length_singleton, Nat.add_sub_cancel_left, List.take_one, List.head?_drop, List.getElem?_eq_getElem hn]
      simp
    rw [List.range_succ, List.map_append, List.reverse_append, List.map_cons, List.map_nil, List.reverse_cons, List.reverse_nil, List.nil_append, List.singleton_append, List.find?_cons, e1, cutL_snoc]
    simp only [Nat.add_zero] at ih ⊢
    rw [e2]
    by_cases hx : l[n] = c
    · simp [hx]; omega
    · rw [beq_eq_false_iff_ne.mpr hx, if_neg hx]
      rw [List.map_id'] at ih ⊢
      exact ih
theorem rfindB (l : List Nat) (c : Nat) (hs : Small l) (hc : c < 256) : Builtin.Bytes.rfind? (mkB l) (mkB [c]) 0 (mkB l).size = if cutL c l = 0 then none else some (cutL c l - 1) := by
  have h := rfindB_go l c hs hc l.length (Nat.le_refl _)
  rw [List.take_length] at h
  unfold Builtin.Bytes.rfind?
  have : (mkB l).size + 1 - (0 + (mkB [c]).size) = l.length := by rw [mkB_size, mkB_size]; simp
  rw [this]
  exact h
end Mine
namespace Mine
theorem lit_slash : Str.ofString "/" = mkS [47] := by decide +kernel
theorem lit_dot : Str.ofString "." = mkS [46] := by decide +kernel
theorem lit_dd : Str.ofString ".." = mkS [46, 46] := by decide +kernel
theorem lit_nil : Str.ofString "" = mkS [] := by decide +kernel
theorem lit_slashB : ([47] : List UInt8).toArray = mkB [47] := rfl
theorem lit_dotB : ([46] : List UInt8).toArray = mkB [46] := rfl
theorem lit_ddB : ([46, 46] : List UInt8).toArray = mkB [46, 46] := rfl
theorem lit_nilB : ([] : List UInt8).toArray = mkB [] := rfl
theorem Small.rep {c : Nat} (h : c < 256) (k : Nat) : Small (List.replicate k c) := fun x hx => by rw [List.eq_of_mem_replicate hx]; exact h
theorem len_ne_zero (l : List Nat) : ((l.length : Int) != 0) = decide (l ≠ []) := by
  cases l with
  | nil => rfl
  | cons x l => simp; omega
theorem bne_dec (a b : List Nat) : (a != b) = decide (a ≠ b) := by
  by_cases h : a = b
  · simp [h]
  · simp [h]
theorem beq_dec (a b : List Nat) : (a == b) = decide (a = b) := by
  by_cases h : a = b
  · simp [h]
  · simp [h]
section
variable {prog : Program} {w : World} {A : Around} {E : Value → Shared → Prop} {s : Shared} {l m : List Nat} {t u : Tok}
/-! texts -/
theorem rfind_S {c : Nat} {y : Str} {Q : Value → Shared → Prop} (hy : y = mkS [c]) (hq : Q (.int ((cutL c l : Int) - 1) s.toks) { s with toks := s.toks + 1 }) : wpAny (model prog w) A (call (.builtin "str.rfind") [.str (mkS l) t, .str y u]) Q E s :=
  SC.rfind (by rw [hy, rfind_mkS]; exact hq)
theorem lstrip_S {c : Nat} {y : Str} {Q : Value → Shared → Prop} (hy : y = mkS [c]) (hz : l.length ≤ 4096) (hq : ∀ t' k, (lstL c l).length ≤ l.length → Q (.str (mkS (lstL c l)) t') { s with toks := k }) : wpAny (model prog w) A (call (.builtin "str.lstrip") [.str (mkS l) t, .str y u]) Q E s :=
  SC.lstripChars (fun t' k => by rw [hy, lstrip_mkS]; exact hq t' k (lstL_length c l)) (by rw [mkS_length, sizeLine_eq]; omega)
theorem len_S {Q : Value → Shared → Prop} (hz : l.length ≤ 4096) (h : Q (.int l.length (s.toks + 1)) { s with toks := s.toks + 1 + 1 }) : wpAny (model prog w) A (call (.builtin "len") [.str (mkS l) t]) Q E s :=
  P.len_str (by rw [mkS_length]; omega) (by rw [mkS_length]; exact h)
theorem truthy_S {Q : Bool → Shared → Prop} (hz : l.length ≤ 4096) (h : Q (decide (l ≠ [])) { s with toks := s.toks + 1 + 1 }) : wpAny (model prog w) A (truthy (.str (mkS l) t)) Q E s :=
  P.truthy_str (by rw [mkS_length]; omega) (by rw [mkS_length, len_ne_zero]; exact h)
theorem eq_S {x y : Str} {Q : Value → Shared → Prop} (hx : x = mkS l) (hy : y = mkS m) (h : Q (.bool (decide (l = m))) s) : wpAny (model prog w) A (compareOp .Eq (.str x t) (.str y u)) Q E s :=
  P.eq_str (by rw [hx, hy, mkS_cps, mkS_cps, beq_dec]; exact h)
theorem ne_S {x y : Str} {Q : Value → Shared → Prop} (hx : x = mkS l) (hy : y = mkS m) (h : Q (.bool (decide (l ≠ m))) s) : wpAny (model prog w) A (compareOp .NotEq (.str x t) (.str y u)) Q E s :=
  P.ne_str (by rw [hx, hy, mkS_cps, mkS_cps, bne_dec]; exact h)
section
variable {value slice : PySem.Expr} {h₀ : Heap} {L : Addr} {fm : PySem.Str → Option Value} {news : List (Addr × Obj)} {Q : Value → Shared → Prop} {lo hi : Option Int} {vl vu : Value}
theorem slice_S (hF : Fr h₀ L s.heap fm) (hN : News h₀ L s.heap news) (hl : IsPart vl lo) (hu : IsPart vu hi) (hz : l.length ≤ 4096)
    (h : ∀ h' t' k, Fr h₀ L h' fm → News h₀ L h' news → (pySl l lo hi).length ≤ l.length → Q (.str (mkS (pySl l lo hi)) t') { s with heap := h', toks := k })
    (hs : subscripted slice false (.str (mkS l) t) (.ref s.heap.objs.size) = operate [.ref s.heap.objs.size, .str (mkS l) t] (getItem (.str (mkS l) t) (.ref s.heap.objs.size)) := by with_unfolding_all rfl)
    (ht : ∀ r, letTemporaryGo value (.str (mkS l) t) r = pure () := by intro _; with_unfolding_all rfl) :
    wpAny (model prog w) A (subscriptTail value slice (.str (mkS l) t) (.ref s.heap.objs.size)) Q E { s with heap := s.heap.push { cls := .type "slice", data := .fields #[vl, vu, .none] } } := by
  have hsz : (mkS l).length ≤ sizeLine := by rw [mkS_length, sizeLine_eq]; omega
  cases hl <;> cases hu
  · exact slice_strN_nn hF hN (fun h' t' k a b => by rw [slice_mkS]; exact h h' t' k a b (pySl_length _ _ _)) hs ht hsz
  · exact slice_strN_ns hF hN (fun h' t' k a b => by rw [slice_mkS]; exact h h' t' k a b (pySl_length _ _ _)) hs ht hsz
  · exact slice_strN_sn hF hN (fun h' t' k a b => by rw [slice_mkS]; exact h h' t' k a b (pySl_length _ _ _)) hs ht hsz
  · exact slice_strN_ss hF hN (fun h' t' k a b => by rw [slice_mkS]; exact h h' t' k a b (pySl_length _ _ _)) hs ht hsz
theorem slice_B (hF : Fr h₀ L s.heap fm) (hN : News h₀ L s.heap news) (hl : IsPart vl lo) (hu : IsPart vu hi) (hz : l.length ≤ 4096)
    (h : ∀ h' t' k, Fr h₀ L h' fm → News h₀ L h' news → (pySl l lo hi).length ≤ l.length → Q (.bytes (mkB (pySl l lo hi)) t') { s with heap := h', toks := k })
    (hs : subscripted slice false (.bytes (mkB l) t) (.ref s.heap.objs.size) = operate [.ref s.heap.objs.size, .bytes (mkB l) t] (getItem (.bytes (mkB l) t) (.ref s.heap.objs.size)) := by with_unfolding_all rfl)
    (ht : ∀ r, letTemporaryGo value (.bytes (mkB l) t) r = pure () := by intro _; with_unfolding_all rfl) :
    wpAny (model prog w) A (subscriptTail value slice (.bytes (mkB l) t) (.ref s.heap.objs.size)) Q E { s with heap := s.heap.push { cls := .type "slice", data := .fields #[vl, vu, .none] } } :=
  KBc.slice_K hF hN rfl hl hu (by rw [KBw.ints_length, mkB_size]; omega) (fun h' t' k a b _ => by rw [picked_mkB]; exact h h' t' k a b (pySl_length _ _ _)) hs ht
end
/-! bytes -/
theorem len_B {Q : Value → Shared → Prop} (hz : l.length ≤ 4096) (h : Q (.int l.length (s.toks + 1)) { s with toks := s.toks + 1 + 1 }) : wpAny (model prog w) A (call (.builtin "len") [.bytes (mkB l) t]) Q E s :=
  len_bytes (by rw [mkB_size]; omega) (by rw [mkB_size]; exact h)
theorem truthy_B {Q : Bool → Shared → Prop} (hz : l.length ≤ 4096) (h : Q (decide (l ≠ [])) { s with toks := s.toks + 1 + 1 }) : wpAny (model prog w) A (truthy (.bytes (mkB l) t)) Q E s :=
  truthy_bytes (by rw [mkB_size]; omega) (by rw [mkB_size, len_ne_zero]; exact h)
theorem mkB_list_beq {a b : List Nat} (ha : Small a) (hb : Small b) : ((mkB a).toList == (mkB b).toList) = decide (a = b) := by
  by_cases h : a = b
  · subst h; simp
  · have : (mkB a).toList ≠ (mkB b).toList := fun e => h (mkB_inj ha hb (by rw [← Array.toArray_toList (xs := mkB a), e, Array.toArray_toList]))
    rw [beq_eq_false_iff_ne.mpr this]; simp [h]
theorem eq_B {x y : Array UInt8} {Q : Value → Shared → Prop} (hx : x = mkB l) (hy : y = mkB m) (h1 : Small l) (h2 : Small m) (h : Q (.bool (decide (l = m))) s) : wpAny (model prog w) A (compareOp .Eq (.bytes x t) (.bytes y u)) Q E s :=
  eq_bytes (by rw [hx, hy, mkB_list_beq h1 h2]; exact h)
theorem ne_B {x y : Array UInt8} {Q : Value → Shared → Prop} (hx : x = mkB l) (hy : y = mkB m) (h1 : Small l) (h2 : Small m) (h : Q (.bool (decide (l ≠ m))) s) : wpAny (model prog w) A (compareOp .NotEq (.bytes x t) (.bytes y u)) Q E s :=
  ne_bytes (by rw [hx, hy, bne, mkB_list_beq h1 h2, ← decide_not]; exact h)
end

/-! what the functions of the program give, as plain lists -/
noncomputable def headL (l : List Nat) : List Nat := if l.take (cutL 47 l) ≠ [] ∧ l.take (cutL 47 l) ≠ List.replicate (l.take (cutL 47 l)).length 47 then rstL 47 (l.take (cutL 47 l)) else l.take (cutL 47 l)
noncomputable def tlL (l : List Nat) : List Nat := l.drop (cutL 47 l)
theorem headL_mem {l : List Nat} {c : Nat} (h : c ∈ headL l) : c ∈ l := by
  unfold headL at h
  split at h
  · exact List.mem_of_mem_take (rstL_mem h)
  · exact List.mem_of_mem_take h
theorem Small.head {l : List Nat} (h : Small l) : Small (headL l) := h.sub fun _ => headL_mem
/-- where the ending begins -/
noncomputable def extK (l : List Nat) : Nat := if ((l.take (cutL 46 l - 1)).drop (cutL 47 l)).any (fun c => c != 46) then cutL 46 l - 1 else l.length

theorem sl_one (l : List Nat) (k : Nat) : pySl l (some (k : Int)) (some ((k : Int) + 1)) = (l.drop k).take 1 := by
  rw [show ((k : Int) + 1) = ((k + 1 : Nat) : Int) from by omega, pySl_ft, Nat.add_sub_cancel_left]
theorem sl_zero (l : List Nat) : pySl l none (some 0) = [] := pySl_to l 0
theorem drop_one_eq {l : List Nat} {k c : Nat} : (l.drop k).take 1 = [c] ↔ l[k]? = some c := by
  rw [List.take_one, List.head?_drop]
  cases l[k]? <;> simp
theorem any_step {l : List Nat} {a k c : Nat} (ha : a ≤ k) (h3 : ((l.take k).drop a).any (fun x => x != c) = false) (h : (l.drop k).take 1 = [c]) : ((l.take (k + 1)).drop a).any (fun x => x != c) = false := by
  have hk := drop_one_eq.mp h
  obtain ⟨hl, he⟩ := List.getElem?_eq_some_iff.mp hk
  have e1 : l.take (k + 1) = l.take k ++ [c] := by rw [List.take_add_one, hk]; rfl
  rw [e1, List.drop_append_of_le_length (by rw [List.length_take]; omega), List.any_append, h3]
  simp
theorem any_hit {l : List Nat} {a k d c : Nat} (ha : a ≤ k) (hd : k < d) (hl : k < l.length) (h : (l.drop k).take 1 ≠ [c]) : ((l.take d).drop a).any (fun x => x != c) = true := by
  rw [List.any_eq_true]
  refine ⟨l[k], ?_, ?_⟩
  · have : ((l.take d).drop a)[k - a]? = some l[k] := by
      rw [List.getElem?_drop, List.getElem?_take, show a + (k - a) = k from by omega, if_pos hd, List.getElem?_eq_getElem hl]
    exact List.mem_of_getElem? this
  · have : l[k] ≠ c := fun e => h (drop_one_eq.mpr (by rw [List.getElem?_eq_getElem hl, e]))
    simp [this]
theorem ext_yes {l : List Nat} {k : Nat} (hk1 : cutL 47 l ≤ k) (hk2 : k + 1 ≤ cutL 46 l) (hk : (k : Int) < (cutL 46 l : Int) - 1) (h : pySl l (some (k : Int)) (some ((k : Int) + 1)) ≠ [46]) : extK l = cutL 46 l - 1 ∧ ((cutL 46 l : Int) - 1) = ((extK l : Nat) : Int) := by
  have := cutL_le 46 l
  have e : extK l = cutL 46 l - 1 := by
    unfold extK
    rw [any_hit hk1 (by omega) (by omega) (by rwa [sl_one] at h)]
    rfl
  exact ⟨e, by rw [e]; omega⟩
theorem ext_no {l : List Nat} (h : ((l.take (cutL 46 l - 1)).drop (cutL 47 l)).any (fun c => c != 46) = false) : extK l = l.length := by
  unfold extK; rw [h]; rfl
theorem ext_no2 {l : List Nat} (h : ¬ ((cutL 47 l : Int) - 1 < (cutL 46 l : Int) - 1)) : extK l = l.length := by
  refine ext_no ?_
  rw [List.drop_of_length_le (by rw [List.length_take]; omega)]; rfl
theorem ext_all {l : List Nat} (h : extK l = l.length) : l = l.take (extK l) ∧ pySl l none (some 0) = l.drop (extK l) := by
  rw [h, sl_zero]; simp

/-! methods of bytes -/
theorem slot_rfind : Slot "bytes" "rfind" "bytes.rfind" :=
  .of (owner := "bytes") (n := "rfind") (by rw [typeLookup_type, builtinLookup_eq_fast]; kernel_rfl) (by decide +kernel) (by decide +kernel) (by decide +kernel)
    (by first | exact .inl (by decide +kernel) | exact .inr (by decide +kernel)) (by rw [isSubtype_type]; kernel_rfl)
theorem type_rfind : typeOf (.builtin "bytes.rfind") = pure (.type "method_descriptor") := by show builtinType _ = _; rw [builtinType_eq_fast]; kernel_rfl
theorem entry_rfind : entryFor table "bytes.rfind" = some Builtin.«bytes.rfind» := entryFor_of_tree (by kernel_rfl)
theorem args_rfind (a b : Value) : argsOk "bytes.rfind" ⟨[a, b], []⟩ := by
  unfold argsOk; rw [signature?_of (id := "bytes.rfind") (n := ['d', 'n', 'i', 'f', 'r']) (o := ['s', 'e', 't', 'y', 'b']) (by kernel_rfl) FB.owner_bytes]; kernel_rfl
theorem meth_rfind {M : Model} {A : Around} {E : Value → Shared → Prop} {s : Shared} {b : Array UInt8} {t : Tok} {pl : Sem Bool} {Q : Value × List Value → Shared → Prop} (h : Q (.builtin "bytes.rfind", [.bytes b t]) s) : wpAny M A (getMethod (.bytes b t) "rfind" pl) Q E s := by
  with_reducible exact KBd.method_of (.bytes b t) (typeIs_bytes _ _ _) slot_rfind type_rfind KBd.noRef h
theorem slot_split : Slot "bytes" "split" "bytes.split" :=
  .of (owner := "bytes") (n := "split") (by rw [typeLookup_type, builtinLookup_eq_fast]; kernel_rfl) (by decide +kernel) (by decide +kernel) (by decide +kernel)
    (by first | exact .inl (by decide +kernel) | exact .inr (by decide +kernel)) (by rw [isSubtype_type]; kernel_rfl)
theorem type_split : typeOf (.builtin "bytes.split") = pure (.type "method_descriptor") := by show builtinType _ = _; rw [builtinType_eq_fast]; kernel_rfl
theorem entry_split : entryFor table "bytes.split" = some Builtin.«bytes.split» := entryFor_of_tree (by kernel_rfl)
theorem args_split (a b : Value) : argsOk "bytes.split" ⟨[a, b], []⟩ := by
  unfold argsOk; rw [signature?_of (id := "bytes.split") (n := ['t', 'i', 'l', 'p', 's']) (o := ['s', 'e', 't', 'y', 'b']) (by kernel_rfl) FB.owner_bytes]; kernel_rfl
theorem meth_split {M : Model} {A : Around} {E : Value → Shared → Prop} {s : Shared} {b : Array UInt8} {t : Tok} {pl : Sem Bool} {Q : Value × List Value → Shared → Prop} (h : Q (.builtin "bytes.split", [.bytes b t]) s) : wpAny M A (getMethod (.bytes b t) "split" pl) Q E s := by
  with_reducible exact KBd.method_of (.bytes b t) (typeIs_bytes _ _ _) slot_split type_split KBd.noRef h
theorem slot_join : Slot "bytes" "join" "bytes.join" :=
  .of (owner := "bytes") (n := "join") (by rw [typeLookup_type, builtinLookup_eq_fast]; kernel_rfl) (by decide +kernel) (by decide +kernel) (by decide +kernel)
    (by first | exact .inl (by decide +kernel) | exact .inr (by decide +kernel)) (by rw [isSubtype_type]; kernel_rfl)
theorem type_join : typeOf (.builtin "bytes.join") = pure (.type "method_descriptor") := by show builtinType _ = _; rw [builtinType_eq_fast]; kernel_rfl
theorem entry_join : entryFor table "bytes.join" = some Builtin.«bytes.join» := entryFor_of_tree (by kernel_rfl)
theorem args_join (a b : Value) : argsOk "bytes.join" ⟨[a, b], []⟩ := by
  unfold argsOk; rw [signature?_of (id := "bytes.join") (n := ['n', 'i', 'o', 'j']) (o := ['s', 'e', 't', 'y', 'b']) (by kernel_rfl) FB.owner_bytes]; kernel_rfl
theorem meth_join {M : Model} {A : Around} {E : Value → Shared → Prop} {s : Shared} {b : Array UInt8} {t : Tok} {pl : Sem Bool} {Q : Value × List Value → Shared → Prop} (h : Q (.builtin "bytes.join", [.bytes b t]) s) : wpAny M A (getMethod (.bytes b t) "join" pl) Q E s := by
  with_reducible exact KBd.method_of (.bytes b t) (typeIs_bytes _ _ _) slot_join type_join KBd.noRef h

section
open Builtin
variable {prog : Program} {w : World} {A : Around} {E : Value → Shared → Prop} {s : Shared} {l m : List Nat} {t u : Tok}
theorem searchArgs_eq {b y : Array UInt8} : Bytes.searchArgs .bytes "rfind" ⟨[.bytes b t, .bytes y u], []⟩ = pure (b, y, if ((b.size : Int) - 0 < (y.size : Int)) then none else some ((0 : Int).toNat, (b.size : Int).toNat)) := by
  show (Bytes.buffer? _ (Value.bytes y u) >>= _) = _
  rw [KBy.buffer_eq]
  have e : Bytes.window b.size none none = (0, (b.size : Int)) := by
    unfold Bytes.window
    simp
    omega
  show (pure (b, y, if ((Bytes.window b.size none none).2 - (Bytes.window b.size none none).1 < (y.size : Int)) then none else some ((Bytes.window b.size none none).1.toNat, (Bytes.window b.size none none).2.toNat)) : Sem _) = _
  rw [e]
theorem rfind_val (hs : Small l) {c : Nat} (hc : c < 256) : ((if ((mkB l).size : Int) - 0 < ((mkB [c]).size : Int) then none else some ((0 : Int).toNat, ((mkB l).size : Int).toNat)).bind fun p => Bytes.rfind? (mkB l) (mkB [c]) p.1 p.2) = if cutL c l = 0 then none else some (cutL c l - 1) := by
  split
  · rename_i h
    rw [mkB_size, mkB_size] at h
    have : l = [] := List.length_eq_zero_iff.mp (by simp at h; omega)
    subst this
    rfl
  · exact rfindB l c hs hc
theorem gives_rfind (hs : Small l) {c : Nat} (hc : c < 256) : Gives («bytes.rfind» ⟨[.bytes (mkB l) t, .bytes (mkB [c]) u], []⟩) (.int ((cutL c l : Int) - 1)) := by
  refine .of_wp fun M A E s Q hq => ?_
  show wpAny M A (Bytes.searchArgs .bytes "rfind" ⟨[.bytes (mkB l) t, .bytes (mkB [c]) u], []⟩ >>= fun r => _) _ E s
  refine wpAny_bind (wpAny_of_eq searchArgs_eq ?_)
  show wpAny M A (match ((if ((mkB l).size : Int) - 0 < ((mkB [c]).size : Int) then none else some ((0 : Int).toNat, ((mkB l).size : Int).toNat)).bind fun p => Bytes.rfind? (mkB l) (mkB [c]) p.1 p.2) with | some i => retInt i | none => _) _ E s
  rw [rfind_val hs hc]
  by_cases h : cutL c l = 0
  · rw [if_pos h]
    rw [h] at hq
    exact wpAny_bind (wpAny_rule (wpAny_bind (wpAny_mkInt (wpAny_pure ⟨_, rfl, hq⟩))))
  · rw [if_neg h]
    have e : ((cutL c l - 1 : Nat) : Int) = (cutL c l : Int) - 1 := by omega
    show wpAny M A (retInt ((cutL c l - 1 : Nat) : Int)) _ E s
    rw [e]
    exact wpAny_bind (wpAny_mkInt (wpAny_pure ⟨_, rfl, hq⟩))
theorem rfind_B {c : Nat} {y : Array UInt8} {Q : Value → Shared → Prop} (hs : Small l) (hy : y = mkB [c]) (hc : c < 256) (hq : Q (.int ((cutL c l : Int) - 1) s.toks) { s with toks := s.toks + 1 }) : wpAny (model prog w) A (call (.builtin "bytes.rfind") [.bytes (mkB l) t, .bytes y u]) Q E s := by
  subst hy
  exact call_gives slot_rfind (typeIs_bytes _ _ _) entry_rfind (args_rfind _ _) (gives_rfind hs hc) hq
end
end Mine
namespace Mine
noncomputable def Stop (P : Prop) : Prop := P
theorem Stop.of {P : Prop} (h : Stop P) : P := h
theorem Stop.un {P : Prop} (h : P) : Stop P := h
@[irreducible] def StopG (P : Prop) : Prop := P
theorem StopG.eq (P : Prop) : StopG P = P := by unfold StopG; rfl
theorem goodStop {c : ClaimW} {cl : Str → Option Addr} {mean : ExcName → Option Value} {args : List WData} {s₁ s' : Shared} {r : Except Value Flow} (h : StopG (GoodW c cl mean args s₁ r s')) : GoodW c cl mean args s₁ r s' := by rw [StopG.eq] at h; exact h
theorem stopG {P : Prop} (h : StopG P) : P := by rw [StopG.eq] at h; exact h
section
variable {prog : Program} {w : World} {A : Around} {E : Value → Shared → Prop} {s : Shared} {env : Env} {h₀ : Heap} {x : Str} {body : List Stmt} {Q : Flow → Shared → Prop}

theorem led_head {h₀ h : Heap} {L a : Addr} {o : Obj} {r : List (Addr × Obj)} (_N : News h₀ L h ((a, o) :: r)) : ∃ b, b = a := ⟨a, rfl⟩
/-- the end of a loop's turn: the state's letters c, their ledger and names -/
noncomputable def TurnEnd {σ : Type} (h₀ : Heap) (L : Addr) (Led : σ → List (Addr × Obj)) (ps : σ → List (Str × Value)) (x : Str) (stored : List Str) (m₀ : Str → Option Value) (P : σ → Prop) (I : Addr) (oI : Obj) (s₁ s₂ : Shared) : Prop :=
  ∃ c h' tk m' news', s₂ = { s₁ with heap := h', toks := tk } ∧ Fr h₀ L h' m' ∧ News h₀ L h' news' ∧ (∀ p ∈ Led c, p ∈ news') ∧ (I, oI) ∈ news' ∧ (∀ p ∈ Led c, p.1 ≠ I) ∧ (∀ p ∈ ps c, m' p.1 = some p.2) ∧ (∀ z, z ≠ x → (∀ p ∈ ps c, z ≠ p.1) → stored.contains z = false → m' z = m₀ z) ∧ P c
noncomputable def TurnPost {σ : Type} (h₀ : Heap) (L : Addr) (Led : σ → List (Addr × Obj)) (ps : σ → List (Str × Value)) (x : Str) (stored : List Str) (m₀ : Str → Option Value) (P : σ → Prop) (I : Addr) (oI : Obj) (s₁ : Shared) (Q : Flow → Shared → Prop) (f : Flow) (s₂ : Shared) : Prop :=
  match f with
  | .ret v => Q (.ret v) s₂
  | .brk => Q .next s₂
  | _ => TurnEnd h₀ L Led ps x stored m₀ P I oI s₁ s₂

theorem turn_end {σ : Type} {L : Addr} {Led : σ → List (Addr × Obj)} {ps : σ → List (Str × Value)} {stored : List Str} {m₀ m' : Str → Option Value} {P : σ → Prop} {I : Addr} {oI : Obj} {s₁ : Shared} {h' : Heap} {tk : Nat} {news' : List (Addr × Obj)} (c : σ)
    (F : Fr h₀ L h' m') (N : News h₀ L h' news') (hn : ∀ p ∈ Led c, p ∈ news') (hI : (I, oI) ∈ news') (hne : ∀ p ∈ Led c, p.1 ≠ I) (hk : ∀ p ∈ ps c, m' p.1 = some p.2)
    (hr : ∀ z, z ≠ x → (∀ p ∈ ps c, z ≠ p.1) → stored.contains z = false → m' z = m₀ z) (hp : P c) : TurnEnd h₀ L Led ps x stored m₀ P I oI s₁ { s₁ with heap := h', toks := tk } :=
  ⟨c, h', tk, m', news', rfl, F, N, hn, hI, hne, hk, hr, hp⟩

theorem for_core {σ : Type} {I : Addr} {fp : List Addr} {n : Nat} {Pv : Nat → Value → Prop} {St : Nat → Heap → Prop} {m₀ : Str → Option Value} (Led : σ → List (Addr × Obj)) (ps : σ → List (Str × Value)) (stored : List Str) (P : Nat → σ → Prop) (c₀ : σ)
    (W : Walks prog w A I fp [I] n Pv St) (hLf : env.locals ∉ fp) (hI0 : h₀.get? I = none) (hoI : ∀ i h, St i h → ∃ o, h.get? I = some o)
    (hfp : ∀ b ∈ fp, b = I ∨ (∃ o, h₀.get? b = some o) ∨ ∃ o, ∀ c, (b, o) ∈ Led c)
    (hst : St 0 s.heap) (F : Fr h₀ env.locals s.heap m₀) (N : News h₀ env.locals s.heap (Led c₀)) (hIl : ∀ p ∈ Led c₀, p.1 ≠ I) (hk : ∀ p ∈ ps c₀, m₀ p.1 = some p.2) (hp : P 0 c₀)
    (turn : ∀ (c : σ) i v (u : Str → Option Value) h tk oI, i < n → Pv i v → P i c → (∀ p ∈ Led c, p.1 ≠ I) →
      Fr h₀ env.locals h (fun y => if y = x then some v else kstB (fun z => if stored.contains z then u z else m₀ z) (ps c) y) → News h₀ env.locals h ((I, oI) :: Led c) →
      wpAny (model prog w) A (execs body env) (TurnPost h₀ env.locals Led ps x stored m₀ (P (i + 1)) I oI { s with heap := h, toks := tk } Q) E { s with heap := h, toks := tk })
    (done : ∀ (c : σ) (u : Str → Option Value) h tk, P n c → Fr h₀ env.locals h (fun y => if y = x then u y else kstB (fun z => if stored.contains z then u z else m₀ z) (ps c) y) → News h₀ env.locals h (Led c) → Q .next { s with heap := h, toks := tk }) :
    LoopAtV prog w A h₀ env x body Q E (.ref I) s := by
  let J : Nat → (Str → Option Value) → List (Addr × Obj) → Prop := fun i m nx => ∃ c, nx = Led c ∧ (∀ p ∈ ps c, m p.1 = some p.2) ∧ (∀ z, z ≠ x → (∀ p ∈ ps c, z ≠ p.1) → stored.contains z = false → m z = m₀ z) ∧ P i c
  refine ⟨I, fp, [I], n, Pv, St, m₀, Led c₀, J, rfl, W, hLf, ?_, ?_, hst, F, N, ⟨c₀, rfl, hk, fun _ _ _ _ => rfl, hp⟩, ?_, ?_⟩
  · intro b hb; rw [List.mem_singleton.mp hb]; exact hI0
  · intro p hp hq; exact hIl p hp (List.mem_singleton.mp hq)
  · rintro i v m₁ news₁ s₁ own ⟨hh', tk', rfl⟩ hin hP ⟨c, rfl, h1, h2, hp'⟩ hoff hown hget hmem hst' F₁ N₁
    have hne : ∀ p ∈ Led c, p.1 ≠ I := fun p hp e => hoff p hp (List.mem_singleton.mpr e)
    obtain ⟨oI, hI⟩ := hoI _ _ hst'
    have hIfp : I ∈ fp := W.sub I (.head _)
    have hIown : (I, oI) ∈ own := hmem I hIfp hI0 oI hI
    have N₂ : News h₀ env.locals hh' ((I, oI) :: Led c) := fun p hp => (List.mem_cons.mp hp).elim (fun e => N₁ p (List.mem_append.mpr (.inl (e ▸ hIown)))) fun h => N₁ p (List.mem_append.mpr (.inr h))
    refine wpAny_mono (turn c i v m₁ hh' tk' oI hin hP hp' hne (kst_fr h1 h2 F₁) N₂) (fun f s₂ p => ?_) fun _ _ e => e
    have fin : TurnEnd h₀ env.locals Led ps x stored m₀ (P (i + 1)) I oI { s with heap := hh', toks := tk' } s₂ → LoopStepU h₀ env.locals [I] own (J (i + 1)) { s with heap := hh', toks := tk' } .next s₂ := by
      rintro ⟨c', h', tk, m', news', e, F', N', hn, hI', hne', hk', hr', hp''⟩
      refine ⟨rfl, h', tk, m', Led c', e, F', fun p hp => ?_, fun p hp hq => hne' p hp (List.mem_singleton.mp hq), c', rfl, hk', hr', hp''⟩
      rcases List.mem_append.mp hp with hp | hp
      · have hg : hh'.get? p.1 = some p.2 := hget p hp
        rcases hfp p.1 (hown p hp) with e1 | ⟨o, e1⟩ | ⟨o, e1⟩
        · have : p = (I, oI) := by
            have h5 := hg
            rw [e1, hI] at h5
            exact Prod.ext e1 (Option.some.inj h5).symm
          rw [this]; exact N' _ hI'
        · have h5 := (N₁ p (List.mem_append.mpr (.inl hp))).2.2
          rw [e1] at h5; cases h5
        · have h5 := (N₁ _ (List.mem_append.mpr (.inr (e1 c)))).1
          have : p = (p.1, o) := Prod.ext rfl (by have h6 := hg; simp only at h5; rw [h5] at h6; exact (Option.some.inj h6).symm)
          rw [this]; exact N' _ (hn _ (e1 c'))
      · exact N' p (hn p hp)
    cases f with
    | ret v => exact .ret p
    | brk => exact .brk p
    | next => exact .next (fin p)
    | cont => exact .cont (fin p)
  · rintro h' tk m' news' F' N' _ ⟨c, rfl, h1, h2, hp'⟩
    exact done c m' h' tk hp' (kst_frOut h1 h2 F') N'

/-- a for over a list that stays as it is -/
theorem for_list {σ : Type} {l : Addr} {vs : List Value} {m₀ : Str → Option Value} (Led : σ → List (Addr × Obj)) (ps : σ → List (Str × Value)) (stored : List Str) (P : Nat → σ → Prop) (c₀ : σ)
    (hh : A.handled = none) (hl : s.heap.IsList l vs.toArray) (hl2 : (∃ o, h₀.get? l = some o) ∨ ∃ o, ∀ c, (l, o) ∈ Led c) (F : Fr h₀ env.locals s.heap m₀) (N : News h₀ env.locals s.heap (Led c₀)) (hk : ∀ p ∈ ps c₀, m₀ p.1 = some p.2) (hp : P 0 c₀)
    (turn : ∀ (c : σ) i v (u : Str → Option Value) h tk I oI, i < vs.length → vs[i]? = some v → P i c → (∀ p ∈ Led c, p.1 ≠ I) →
      Fr h₀ env.locals h (fun y => if y = x then some v else kstB (fun z => if stored.contains z then u z else m₀ z) (ps c) y) → News h₀ env.locals h ((I, oI) :: Led c) →
      wpAny (model prog w) A (execs body env) (TurnPost h₀ env.locals Led ps x stored m₀ (P (i + 1)) I oI { s with heap := h, toks := tk } Q) E { s with heap := h, toks := tk })
    (done : ∀ (c : σ) (u : Str → Option Value) h tk, P vs.length c → Fr h₀ env.locals h (fun y => if y = x then u y else kstB (fun z => if stored.contains z then u z else m₀ z) (ps c) y) → News h₀ env.locals h (Led c) → Q .next { s with heap := h, toks := tk }) :
    wpAny (model prog w) A (pyIter (.ref l)) (fun it s₂ => LoopAtV prog w A h₀ env x body Q E it s₂) E s := by
  obtain ⟨ol, hol, _⟩ := id hl
  have hlt : l < s.heap.objs.size := Heap.lt_size hol
  refine wpAny_pyIter_list hl ?_
  have W := Walks.list (prog := prog) (w := w) hh s.heap.objs.size l (Nat.ne_of_lt hlt) vs.toArray
  have hlen : vs.toArray.size = vs.length := by simp
  rw [hlen] at W
  have hne : env.locals ≠ l := by
    intro e
    rcases hl2 with ⟨o, h1⟩ | ⟨o, h1⟩
    · rw [← e] at h1; exact absurd (Nat.lt_of_lt_of_le (Heap.lt_size h1) F.above) (Nat.lt_irrefl _)
    · exact (N _ (h1 c₀)).2.1 e.symm
  refine for_core Led ps stored P c₀ W ?_ (next_is_new F) (fun i h st => st.1.imp fun _ x => x.1) ?_ ⟨⟨_, Heap.get?_push_size _ rfl, rfl, rfl⟩, hl.at fun o e => Heap.get?_push_of_some _ e⟩ (F.push _) (fun p hp => ⟨Heap.get?_push_of_some _ (N p hp).1, (N p hp).2⟩) ?_ hk hp ?_ ?_
  · intro hm
    rcases List.mem_cons.mp hm with e | hm
    · exact absurd F.ns.lt (e ▸ Nat.lt_irrefl _)
    · exact hne (List.mem_singleton.mp hm)
  · intro b hb
    rcases List.mem_cons.mp hb with e | hm
    · exact .inl e
    · rw [List.mem_singleton.mp hm]; exact .inr hl2
  · intro p hp e
    exact absurd (Heap.lt_size (N p hp).1) (e ▸ Nat.lt_irrefl _)
  · intro c i v u h tk oI hi hv hp hne F N
    exact turn c i v u h tk _ oI hi (by simpa using hv) hp hne F N
  · exact done

theorem for_range {σ : Type} {r : Addr} {a₀ b₀ : Int} {t₀ u₀ v₀ : Tok} {n : Nat} {m₀ : Str → Option Value} (Led : σ → List (Addr × Obj)) (ps : σ → List (Str × Value)) (stored : List Str) (P : Nat → σ → Prop) (c₀ : σ)
    (hh : A.handled = none) (hr : IsRange s.heap r a₀ b₀ 1 t₀ u₀ v₀) (hsmall : Builtin.Range.small a₀ b₀ 1 = true) (hn : Builtin.Range.rangeSize a₀ b₀ 1 = (n : Int)) (F : Fr h₀ env.locals s.heap m₀) (N : News h₀ env.locals s.heap (Led c₀)) (hk : ∀ p ∈ ps c₀, m₀ p.1 = some p.2) (hp : P 0 c₀)
    (turn : ∀ (c : σ) i k t (u : Str → Option Value) h tk I oI, i < n → k = a₀ + (i : Int) → P i c → (∀ p ∈ Led c, p.1 ≠ I) →
      Fr h₀ env.locals h (fun y => if y = x then some (.int k t) else kstB (fun z => if stored.contains z then u z else m₀ z) (ps c) y) → News h₀ env.locals h ((I, oI) :: Led c) →
      wpAny (model prog w) A (execs body env) (TurnPost h₀ env.locals Led ps x stored m₀ (P (i + 1)) I oI { s with heap := h, toks := tk } Q) E { s with heap := h, toks := tk })
    (done : ∀ (c : σ) (u : Str → Option Value) h tk, P n c → Fr h₀ env.locals h (fun y => if y = x then u y else kstB (fun z => if stored.contains z then u z else m₀ z) (ps c) y) → News h₀ env.locals h (Led c) → Q .next { s with heap := h, toks := tk }) :
    wpAny (model prog w) A (pyIter (.ref r)) (fun it s₂ => LoopAtV prog w A h₀ env x body Q E it s₂) E s := by
  refine wpAny_pyIter_range hr hsmall ?_
  refine for_core Led ps stored P c₀ (Walks.range hh s.heap.objs.size a₀ 1 n) ?_ (next_is_new F) (fun i h st => ⟨_, st⟩) (fun b hb => .inl (List.mem_singleton.mp hb)) (by show IsRangeIter _ _ _ _ _; rw [hn]; simpa using Heap.get?_push_size _ rfl) (F.push _) (fun p hp => ⟨Heap.get?_push_of_some _ (N p hp).1, (N p hp).2⟩) ?_ hk hp ?_ done
  · intro hm
    exact absurd F.ns.lt ((List.mem_singleton.mp hm) ▸ Nat.lt_irrefl _)
  · intro p hp e
    exact absurd (Heap.lt_size (N p hp).1) (e ▸ Nat.lt_irrefl _)
  · rintro c i v u h tk oI hi ⟨t, rfl⟩ hp hne F N
    exact turn c i _ t u h tk _ oI hi (by omega) hp hne F N
end
noncomputable def IN (l : List Nat) : List Int := l.map (fun c : Nat => (c : Int))
theorem IN_length (l : List Nat) : (IN l).length = l.length := by simp [IN]
theorem ints_at {vs : List Value} {ns : List Int} (h : IntsAre vs ns) : ∀ {i : Nat} {v : Value}, vs[i]? = some v → ∃ n t, ns[i]? = some n ∧ v = .int n t := by
  induction h with
  | nil => intro i v h; simp at h
  | cons n t _ ih =>
    intro i v h
    cases i with
    | zero => simp at h; exact ⟨n, t, rfl, h.symm⟩
    | succ i => simp at h; exact ih h
theorem carried_ints {α : Type} {f : α → Int} : ∀ {as : List α} {ys : List Value}, CarriedAll ys (as.map fun a => PyData.int (f a)) → IntsAre ys (as.map f)
  | [], _, h => by cases h; exact .nil
  | a :: as, _, h => by
    cases h with
    | cons h r =>
      cases h
      exact .cons _ _ (carried_ints r)
theorem carried_strs {α : Type} {f : α → Str} : ∀ {as : List α} {ys : List Value}, CarriedAll ys (as.map fun a => PyData.str (f a)) → StrsAre ys (as.map f)
  | [], _, h => by cases h; exact .nil
  | a :: as, _, h => by
    cases h with
    | cons h r =>
      cases h
      exact .cons _ _ (carried_strs r)
theorem Keeps.rfl' {s : Shared} : Keeps s s := ⟨s.heap, s.toks, rfl, fun _ _ e => e⟩
theorem Keeps.toks {s : Shared} (k : Nat) : Keeps s { s with toks := k } := ⟨s.heap, k, rfl, fun _ _ e => e⟩
theorem News.ofPlain {h₀ h : Heap} {L D : Addr} {m : Str → Option Value} {news : List (Addr × Obj)} {ys : List Value} (F : Fr h₀ L h m) (N : News h₀ L h news) (h0 : h₀.get? D = none) (hp : NewPlain h news D ys.toArray) : ∃ n, News h₀ L h ((D, listOf ys.toArray n) :: news) := by
  obtain ⟨n, e⟩ := hp.1
  refine ⟨n, fun p hm => ?_⟩
  rcases List.mem_cons.mp hm with rfl | hm
  · exact ⟨e, hp.ne_locals F, h0⟩
  · exact N p hm
theorem off_mem {d : Addr} {l : List (Addr × Obj)} (h : AllLt d l) : ∀ p ∈ l, p.1 ≠ d := fun p hp => Nat.ne_of_lt (by
  induction l with
  | nil => exact absurd hp (List.not_mem_nil)
  | cons q l ih => exact (List.mem_cons.mp hp).elim (fun e => by rw [e]; exact h.1) (fun hp => ih h.2 hp))
end Mine
namespace Mine
section
variable {prog : Program} {w : World} {A : Around} {E : Value → Shared → Prop} {s : Shared} {h₀ : Heap} {L : Addr} {m : Str → Option Value} {env : Env}

/-- what a comprehension over a list asks behind its source: pz the test, d the element -/
noncomputable def CompAsk {α : Type} (K : ItemKind α) (prog : Program) (w : World) (A : Around) (h₀ : Heap) (L : Addr) (m : Str → Option Value) (env : Env) (elt : Expr) (x : Str) (tests : List Expr) (scope : Scope) (cl : List (Str × Addr)) (pz : α → Bool) (d : α → PyData)
    (cont : Addr → List Value → Heap → Nat → Prop → Prop) (xv : Value) (s₁ : Shared) : Prop :=
  ∃ (news : List (Addr × Obj)) (l : Addr) (vs : List Value) (n : Nat) (as : List α), xv = .ref l ∧ (l, listOf vs.toArray n) ∈ news ∧ AreOf K vs as ∧ as.length ≤ 8192 ∧ Fr h₀ L s₁.heap m ∧ News h₀ L s₁.heap news ∧
    (∀ C a v s₂ m₂ E', a ∈ as → K.is a v → Fr s₁.heap (compEnvC scope cl C env).locals s₂.heap m₂ → (∀ b o, s₁.heap.get? b = some o → s₂.heap.get? b = some o) → m₂ x = some v →
      match tests with
      | [] => pz a = true
      | [c] => wpAny (model prog w) A (isTrue c (compEnvC scope cl C env) (eval c (compEnvC scope cl C env))) (fun ok s₃ => ok = pz a ∧ Keeps s₂ s₃) E' s₂
      | _ => False) ∧
    (∀ C a v s₂ m₂ E', a ∈ as → K.is a v → pz a = true → Fr s₁.heap (compEnvC scope cl C env).locals s₂.heap m₂ → (∀ b o, s₁.heap.get? b = some o → s₂.heap.get? b = some o) → m₂ x = some v → wpAny (model prog w) A (eval elt (compEnvC scope cl C env)) (fun y s₃ => Carried y (d a) ∧ Keeps s₂ s₃) E' s₂) ∧
    (∀ D ys h' tk n', News h₀ L h' ((D, listOf ys.toArray n') :: news) → (∀ p ∈ news, p.1 ≠ D) → cont D ys h' tk (CarriedAll ys ((as.filter pz).map d)))

theorem comp_tests {tests : List Expr} {cenv : Env} {P : Bool} {M : Model} {s₂ : Shared} {Q : Bool → Shared → Prop} {E' : Value → Shared → Prop}
    (h : match tests with
      | [] => Q true s₂
      | [c] => wpAny M A (isTrue c cenv (eval c cenv)) Q E' s₂
      | _ => False) :
    wpAny M A (forIn tests true fun c r => if r = true then do let ok ← isTrue c cenv (eval c cenv); pure (ForInStep.yield ok) else pure (ForInStep.yield r)) Q E' s₂ := by
  match tests, h with
  | [], h => exact wpAny_pure h
  | [c], h =>
    rw [List.forIn_cons]
    exact wpAny_bind (wpAny_bind (wpAny_mono h (fun ok s₃ hk => wpAny_pure (wpAny_pure hk)) fun _ _ e => e))

theorem comp_eval {α : Type} {K : ItemKind α} {elt iter : Expr} {x : Str} {px : Pos} {tests : List Expr} {scope : Scope} {cl : List (Str × Addr)} {pos : Pos} {Q : Value → Shared → Prop} (pz : α → Bool) (d : α → PyData)
    (_F : Fr h₀ L s.heap m) (hh : A.handled = none) (hclos : closureFor scope env = pure cl) (hcell : ∀ y ∈ scope.names, y.2 ≠ .cell) (hkind : scope.kind = .function)
    (hnames : ∀ y ∈ scope.names, y.2 = .local → scope.names.lookup y.1 = some .local) (hx : scope.names.lookup x = some .local) (hs : ∀ x, foldedSetIterable iter env x = pure x)
    (h : wpAny (model prog w) A (eval iter env) (fun xv s₁ => Stop (CompAsk K prog w A h₀ L m env elt x tests scope cl pz d (fun D _ h' tk C => Fr h₀ L h' m → C → Q (.ref D) { s₁ with heap := h', toks := tk }) xv s₁)) E s) :
    wpAny (model prog w) A (eval (.ListComp elt [⟨.Name x px, iter, tests, 0⟩] scope pos) env) Q E s := by
  refine ListComp_DCn (K := K) (pz := pz) (d := d) (m := m) (h₀ := h₀) (L := L) hh hclos hcell hkind hnames hx (wpAny_mono h (fun xv s₁ h₁ => ?_) fun _ _ e => e) hs
  obtain ⟨news, l, vs, n, as, rfl, hl, hi, hz, F, N, ht, he, hc⟩ := h₁
  refine ⟨news, l, vs, as, rfl, News.isList N hl, hi, by rw [sizeLine_eq]; omega, F, N, ?_, ?_, ?_⟩
  · intro C a v s₂ m₂ E' hC ha hv hn hm hk
    have h2 := ht C a v s₂ m₂ E' ha hv (frInComp hn hk hC) hk hm
    refine comp_tests (P := true) ?_
    match tests, h2 with
    | [], h2 => exact ⟨h2.symm, Keeps.rfl'⟩
    | [c], h2 => exact h2
  · intro C a v s₂ m₂ E' hC ha hv hp hn hm hk
    exact he C a v s₂ m₂ E' ha hv hp (frInComp hn hk hC) hk hm
  · intro D ys h' tk F' N' h0 _ hp hca
    obtain ⟨n', N2⟩ := News.ofPlain F' N' h0 hp
    exact hc D ys h' tk n' N2 hp.2 F' hca

theorem comp_asg {α : Type} {K : ItemKind α} {elt iter : Expr} {x y : Str} {px py : Pos} {tests : List Expr} {scope : Scope} {cl : List (Str × Addr)} {pos spos : Pos} {Q : Flow → Shared → Prop} (pz : α → Bool) (d : α → PyData)
    (_F : Fr h₀ L s.heap m) (hsw : swapsWith (.ListComp elt [⟨.Name x px, iter, tests, 0⟩] scope pos) (some (.Name y py)) spos.line env = pure true) (hL : env.locals = L)
    (hh : A.handled = none) (hclos : closureFor scope env = pure cl) (hcell : ∀ z ∈ scope.names, z.2 ≠ .cell) (hkind : scope.kind = .function)
    (hnames : ∀ z ∈ scope.names, z.2 = .local → scope.names.lookup z.1 = some .local) (hx : scope.names.lookup x = some .local)
    (hy : env.kindOf y = some .local) (hp : (env.scope.kind == .class || (env.scope.kind == .module && env.locals != env.globals)) = false) (hs : ∀ x, foldedSetIterable iter env x = pure x)
    (h : wpAny (model prog w) A (eval iter env) (fun xv s₁ => Stop (CompAsk K prog w A h₀ L m env elt x tests scope cl pz d (fun D _ h' tk C => Fr h₀ L h' (fun z => if z = y then some (.ref D) else m z) → C → Q .next { s₁ with heap := h', toks := tk }) xv s₁)) E s) :
    wpAny (model prog w) A (exec (.Assign [.Name y py] (.ListComp elt [⟨.Name x px, iter, tests, 0⟩] scope pos) spos) env) Q E s := by
  refine Assign_ListComp_DCn (K := K) (pz := pz) (d := d) (m := m) (h₀ := h₀) (L := L) hsw hL hh hclos hcell hkind hnames hx hy hp (wpAny_mono h (fun xv s₁ h₁ => ?_) fun _ _ e => e) hs
  obtain ⟨news, l, vs, n, as, rfl, hl, hi, hz, F, N, ht, he, hc⟩ := h₁
  refine ⟨news, l, vs, as, rfl, News.isList N hl, hi, by rw [sizeLine_eq]; omega, F, N, ?_, ?_, ?_⟩
  · intro C a v s₂ m₂ E' hC ha hv hn hm hk
    have h2 := ht C a v s₂ m₂ E' ha hv (frInComp hn hk hC) hk hm
    refine comp_tests (P := true) ?_
    match tests, h2 with
    | [], h2 => exact ⟨h2.symm, Keeps.rfl'⟩
    | [c], h2 => exact h2
  · intro C a v s₂ m₂ E' hC ha hv hp hn hm hk
    exact he C a v s₂ m₂ E' ha hv hp (frInComp hn hk hC) hk hm
  · intro D ys h' tk F' N' h0 _ hp hca
    obtain ⟨n', N2⟩ := News.ofPlain F' N' h0 hp
    exact hc D ys h' tk n' N2 hp.2 F' hca
end
theorem IN_mem {a : Int} {l : List Nat} (h : a ∈ IN l) : ∃ c ∈ l, a = (c : Int) := by
  unfold IN at h
  obtain ⟨c, hc, rfl⟩ := List.mem_map.mp h
  exact ⟨c, hc, rfl⟩
noncomputable def joinL (sep : List Nat) : List (List Nat) → List Nat
  | [] => []
  | [x] => x
  | x :: y :: r => x ++ sep ++ joinL sep (y :: r)
theorem mkS_app (a b : List Nat) : mkS a ++ mkS b = mkS (a ++ b) := by
  apply Str.ext'
  show (mkS a).cps ++ (mkS b).cps = _
  simp [mkS]
theorem join_mkS (sep : List Nat) : ∀ ps : List (List Nat), Txt.join (mkS sep) (ps.map mkS) = mkS (joinL sep ps) := by
  have h : ∀ ps : List (List Nat), Str.join (mkS sep) (ps.map mkS) = mkS (joinL sep ps) := by
    intro ps
    induction ps with
    | nil => rfl
    | cons x r ih =>
      cases r with
      | nil => rfl
      | cons y r =>
        show mkS x ++ mkS sep ++ Str.join (mkS sep) ((y :: r).map mkS) = _
        rw [ih, mkS_app, mkS_app]; rfl
  intro ps
  rw [← h ps]
  exact StrLaws.glued_eq_join _ _
theorem byteArr_IN (codes : List Nat) : byteArr (IN codes) = mkB codes := by
  unfold byteArr IN mkB
  rw [List.map_map]
  rfl
theorem IN_in {codes : List Nat} (h : Small codes) : KBa.In (IN codes) := fun n hn => by
  obtain ⟨c, hc, rfl⟩ := IN_mem hn
  have := h c hc
  omega
section
variable {prog : Program} {w : World} {A : Around} {E : Value → Shared → Prop} {s : Shared} {h₀ : Heap} {L D : Addr} {m : PySem.Str → Option Value} {news : List (Addr × Obj)} {vs : List Value} {n : Nat}
theorem bytes_IN {codes : List Nat} {Q : Value → Shared → Prop} (F : Fr h₀ L s.heap m) (N : News h₀ L s.heap news) (hh : A.handled = none) (hl : (D, listOf vs.toArray n) ∈ news) (hi : IntsAre vs (IN codes)) (hr : Small codes) (hn : codes.length ≤ 8192)
    (h : ∀ h' t' k, Fr h₀ L h' m → News h₀ L h' news → Q (.bytes (mkB codes) t') { s with heap := h', toks := k }) : wpAny (model prog w) A (call (.type "bytes") [.ref D]) Q E s :=
  KBa.make_K F N hh (News.isList N hl) hi (IN_in hr) (by rw [IN_length]; omega) fun h' t' k a b _ => by rw [byteArr_IN]; exact h h' t' k a b
end
section
variable {prog : Program} {w : World} {A : Around} {E : Value → Shared → Prop} {s : Shared} {h₀ : Heap} {L D : Addr} {m : PySem.Str → Option Value} {news news' : List (Addr × Obj)} {vs : List Value} {n : Nat} {x : Value}
theorem append_L {Q : Value → Shared → Prop} (F : Fr h₀ L s.heap m) (N : News h₀ L s.heap news) (U : Upd D (listOf vs.toArray n) (listOf (vs ++ [x]).toArray (n + 1)) news news')
    (hz : vs.length ≤ 16777216) (h : ∀ h', Fr h₀ L h' m → News h₀ L h' news' → Q .none { s with heap := h' }) : wpAny (model prog w) A (call (.builtin "list.append") [.ref D, x]) Q E s :=
  append_K (its := vs.toArray) F N (by rw [List.push_toArray]; exact U) h (by rw [sizeLine_eq]; simpa using hz)
theorem item_S {value slice : PySem.Expr} {l : List Nat} {i : Int} {t ui : Tok} {Q : Value → Shared → Prop} {y : Str} (hy : y = mkS l) (h0 : 0 ≤ i) (h1 : i < (l.length : Int)) (hz : l.length ≤ 8192) (h : ∀ t' k c, l[i.toNat]? = some c → Q (.str (mkS [c]) t') { s with toks := k })
    (hs : subscripted slice false (.str y t) (.int i ui) = operate [.str y t, .int i ui] (getItem (.str y t) (.int i ui)) := by with_unfolding_all rfl)
    (ht : ∀ r, letTemporaryGo value (.str y t) r = pure () := by intro _; with_unfolding_all rfl) :
    wpAny (model prog w) A (subscriptTail value slice (.str y t) (.int i ui)) Q E s := by
  subst hy
  have hl : i.toNat < l.length := by omega
  have hc : (mkS l).cps[i.toNat]? = some l[i.toNat] := by simp [mkS, hl]
  refine tail_of_ItemOn ⟨"str", _, F.slot_str_getitem.lookup, typeIs_str _ _ _, P.getItem_str (c := l[i.toNat]) ?_ (StrLaws.at_nonneg h0 hc) ?_⟩ hs ht
  · have a1 : ¬ i < -(2 ^ 63 : Int) := by omega
    have a2 : ¬ i ≥ 2 ^ 63 := by omega
    rw [decide_eq_false a1, decide_eq_false a2]; rfl
  · exact h _ _ _ (List.getElem?_eq_getElem hl)
theorem ord_S {c : Nat} {t : Tok} {Q : Value → Shared → Prop} (h : ∀ t' k, Q (.int (c : Int) t') { s with toks := k }) : wpAny (model prog w) A (call (.builtin "ord") [.str (mkS [c]) t]) Q E s := P.ord_of_char (h _ _)
end
theorem abs_nonneg (x : Int) : 0 ≤ (if x < 0 then -x else x) := by split <;> omega
end Mine
namespace Mine
theorem succ_cast (k : Nat) : (k : Int) + 1 = ((k + 1 : Nat) : Int) := by omega
section
variable {prog : Program} {w : World} {A : Around} {E : Value → Shared → Prop} {s : Shared} {h₀ : Heap} {L D D2 : Addr} {m : PySem.Str → Option Value} {news : List (Addr × Obj)} {vs ws : List Value} {n n2 : Nat} {l l2 : List Nat} {Q : Value → Shared → Prop} {value slice : PySem.Expr}
end
/-! tuples of two -/
section
variable {A : Around} {s : Shared} {l m : List Nat} {t u : Tok}
theorem eqAt_S : SeqAt.EqAt A s (.str (mkS l) t) (.str (mkS m) u) (decide (l = m)) := by
  have h := SeqAt.EqAt.str_str (A := A) (s := s) (mkS l) t (mkS m) u
  have e : (mkS l == mkS m) = decide (l = m) := by
    by_cases hc : l = m
    · simp [hc]
    · have : mkS l ≠ mkS m := fun x => hc (mkS_inj x)
      simp [hc, this]
  rw [e] at h; exact h
theorem eqAt_B (h1 : Small l) (h2 : Small m) : SeqAt.EqAt A s (.bytes (mkB l) t) (.bytes (mkB m) u) (decide (l = m)) := fun prog w E Q h => by
  unfold eqBool
  refine wpAny_holding ?_
  refine wpAny_ite_split (fun hab => ?_) (fun _ => ?_)
  · have e : Value.bytes (mkB l) t = .bytes (mkB m) u := eq_of_beq hab
    have e2 : l = m := mkB_inj h1 h2 (by injection e)
    exact wpAny_bind (wpAny_rule (wpAny_pure (by simpa [e2] using h)))
  · exact wpAny_bind (eq_B (A := A) (prog := prog) (w := w) (t := t) (u := u) (l := l) (m := m) (s := s) rfl rfl h1 h2 (wpAny_truthy_bool h))
end
section
variable {prog : Program} {w : World} {A : Around} {E : Value → Shared → Prop} {s : Shared} {h₀ : Heap} {L D D2 : Addr} {news : List (Addr × Obj)} {v1 v2 u1 u2 : Value} {p q : Prop} [Decidable p] [Decidable q] {Q : Value → Shared → Prop}
theorem pair_all {b c : Bool} : ((List.range (min ([v1, v2] : List Value).toArray.size ([u1, u2] : List Value).toArray.size)).all (fun j => if j = 0 then b else c) && ([v1, v2] : List Value).toArray.size == ([u1, u2] : List Value).toArray.size) = (b && c) := by
  have e : List.range (min ([v1, v2] : List Value).toArray.size ([u1, u2] : List Value).toArray.size) = [0, 1] := rfl
  rw [e]
  simp
theorem tup_is (N : News h₀ L s.heap news) {vs : List Value} (hm : (D, tupO vs) ∈ news) : s.heap.IsTuple D vs.toArray := ⟨_, (N _ hm).1, rfl, 0, rfl⟩
theorem pair_eq (N : News h₀ L s.heap news) (hm : (D, tupO [v1, v2]) ∈ news) (hm2 : (D2, tupO [u1, u2]) ∈ news) (hu : A.units < cLine) (e1 : SeqAt.EqAt A.in1 s v1 u1 (decide p)) (e2 : SeqAt.EqAt A.in1 s v2 u2 (decide q)) (h : Q (.bool (decide (p ∧ q))) s) :
    wpAny (model prog w) A (compareOp .Eq (.ref D) (.ref D2)) Q E s := by
  refine SeqAt.RcAt.tuples (e := fun j => if j = 0 then decide p else decide q) (tup_is N hm) (tup_is N hm2) hu ?_ prog w E Q ?_
  · intro j h1 h2
    have : j = 0 ∨ j = 1 := by simp at h1; omega
    rcases this with rfl | rfl
    · exact e1
    · exact e2
  · rw [pair_all]
    have e : (decide p && decide q) = decide (p ∧ q) := by by_cases hp : p <;> by_cases hq : q <;> simp [hp, hq]
    rw [e]; exact h
theorem pair_ne (N : News h₀ L s.heap news) (hm : (D, tupO [v1, v2]) ∈ news) (hm2 : (D2, tupO [u1, u2]) ∈ news) (hu : A.units < cLine) (e1 : SeqAt.EqAt A.in1 s v1 u1 (decide p)) (e2 : SeqAt.EqAt A.in1 s v2 u2 (decide q)) (h : Q (.bool (decide (¬ (p ∧ q)))) s) :
    wpAny (model prog w) A (compareOp .NotEq (.ref D) (.ref D2)) Q E s := by
  refine SeqAt.RcNeAt.tuples (e := fun j => if j = 0 then decide p else decide q) (tup_is N hm) (tup_is N hm2) hu ?_ prog w E Q ?_
  · intro j h1 h2
    have : j = 0 ∨ j = 1 := by simp at h1; omega
    rcases this with rfl | rfl
    · exact e1
    · exact e2
  · rw [pair_all]
    have e : (!(decide p && decide q)) = decide (¬ (p ∧ q)) := by by_cases hp : p <;> by_cases hq : q <;> simp [hp, hq]
    rw [e]; exact h
end
section
variable {prog : Program} {w : World} {A : Around} {E : Value → Shared → Prop} {s : Shared} {h₀ : Heap} {L D D2 : Addr} {news : List (Addr × Obj)} {a b c d : List Nat} {t1 t2 t3 t4 : Tok} {Q : Value → Shared → Prop}
theorem pair_eqS (N : News h₀ L s.heap news) (hm : (D, tupO [.str (mkS a) t1, .str (mkS b) t2]) ∈ news) (hm2 : (D2, tupO [.str (mkS c) t3, .str (mkS d) t4]) ∈ news) (hu : A.units < cLine) (h : Q (.bool (decide (a = c ∧ b = d))) s) :
    wpAny (model prog w) A (compareOp .Eq (.ref D) (.ref D2)) Q E s := pair_eq N hm hm2 hu eqAt_S eqAt_S h
theorem pair_neS (N : News h₀ L s.heap news) (hm : (D, tupO [.str (mkS a) t1, .str (mkS b) t2]) ∈ news) (hm2 : (D2, tupO [.str (mkS c) t3, .str (mkS d) t4]) ∈ news) (hu : A.units < cLine) (h : Q (.bool (decide (¬ (a = c ∧ b = d)))) s) :
    wpAny (model prog w) A (compareOp .NotEq (.ref D) (.ref D2)) Q E s := pair_ne N hm hm2 hu eqAt_S eqAt_S h
theorem pair_eqB (N : News h₀ L s.heap news) (hm : (D, tupO [.bytes (mkB a) t1, .bytes (mkB b) t2]) ∈ news) (hm2 : (D2, tupO [.bytes (mkB c) t3, .bytes (mkB d) t4]) ∈ news) (hu : A.units < cLine) (h1 : Small a) (h2 : Small b) (h3 : Small c) (h4 : Small d) (h : Q (.bool (decide (a = c ∧ b = d))) s) :
    wpAny (model prog w) A (compareOp .Eq (.ref D) (.ref D2)) Q E s := pair_eq N hm hm2 hu (eqAt_B h1 h3) (eqAt_B h2 h4) h
theorem pair_neB (N : News h₀ L s.heap news) (hm : (D, tupO [.bytes (mkB a) t1, .bytes (mkB b) t2]) ∈ news) (hm2 : (D2, tupO [.bytes (mkB c) t3, .bytes (mkB d) t4]) ∈ news) (hu : A.units < cLine) (h1 : Small a) (h2 : Small b) (h3 : Small c) (h4 : Small d) (h : Q (.bool (decide (¬ (a = c ∧ b = d)))) s) :
    wpAny (model prog w) A (compareOp .NotEq (.ref D) (.ref D2)) Q E s := pair_ne N hm hm2 hu (eqAt_B h1 h3) (eqAt_B h2 h4) h
end
theorem Small.tk {a : List Nat} (h : Small a) (k : Nat) : Small (a.take k) := h.sub fun _ hc => List.mem_of_mem_take hc
theorem Small.dr {a : List Nat} (h : Small a) (k : Nat) : Small (a.drop k) := h.sub fun _ hc => List.mem_of_mem_drop hc
/-- no sign above the last one -/
noncomputable def Cps (l : List Nat) : Prop := ∀ c ∈ l, c ≤ 1114111
theorem Cps.sub {a b : List Nat} (h : Cps a) (hb : ∀ c ∈ b, c ∈ a) : Cps b := fun c hc => h c (hb c hc)
theorem Cps.append {a b : List Nat} (ha : Cps a) (hb : Cps b) : Cps (a ++ b) := fun c hc => (List.mem_append.mp hc).elim (ha c) (hb c)
theorem Cps.tk {a : List Nat} (h : Cps a) (k : Nat) : Cps (a.take k) := h.sub fun _ hc => List.mem_of_mem_take hc
theorem Cps.dr {a : List Nat} (h : Cps a) (k : Nat) : Cps (a.drop k) := h.sub fun _ hc => List.mem_of_mem_drop hc
end Mine
namespace Mine
/-! a list of numbers cut at a number -/
noncomputable def splitL (c : Nat) : List Nat → List (List Nat)
  | [] => [[]]
  | x :: l => if x = c then [] :: splitL c l else (x :: (splitL c l).headD []) :: (splitL c l).tail
theorem splitL_cons (c : Nat) (l : List Nat) : ∃ p ps, splitL c l = p :: ps := by
  cases l with
  | nil => exact ⟨_, _, rfl⟩
  | cons x l => unfold splitL; split <;> exact ⟨_, _, rfl⟩
theorem splitL_ne (c : Nat) (l : List Nat) : splitL c l ≠ [] := by
  obtain ⟨p, ps, e⟩ := splitL_cons c l
  rw [e]; simp
theorem splitL_app (c : Nat) (b : List Nat) : ∀ a : List Nat, splitL c (a ++ c :: b) = splitL c a ++ splitL c b
  | [] => by simp [splitL]
  | x :: a => by
    have ih := splitL_app c b a
    obtain ⟨p, ps, e⟩ := splitL_cons c a
    rw [List.cons_append]
    have d : ∀ r, splitL c (x :: r) = if x = c then [] :: splitL c r else (x :: (splitL c r).headD []) :: (splitL c r).tail := fun _ => rfl
    rw [d, d, ih, e]
    split <;> rfl
theorem splitL_none {c : Nat} : ∀ {l : List Nat}, c ∉ l → splitL c l = [l]
  | [], _ => rfl
  | x :: l, h => by
    have h1 : x ≠ c := fun e => h (by rw [e]; exact .head _)
    have ih := splitL_none (c := c) (l := l) fun hm => h (.tail _ hm)
    unfold splitL
    rw [if_neg h1, ih]; rfl
theorem splitL_length (c : Nat) : ∀ l : List Nat, (splitL c l).length ≤ l.length + 1
  | [] => by simp [splitL]
  | x :: l => by
    have ih := splitL_length c l
    obtain ⟨p, ps, e⟩ := splitL_cons c l
    unfold splitL
    split
    · simp only [List.length_cons]; omega
    · rw [e] at ih ⊢; simp only [List.length_cons, List.tail_cons] at *; omega
theorem splitL_mem {c : Nat} : ∀ {l : List Nat} {p : List Nat}, p ∈ splitL c l → c ∉ p ∧ ∀ x ∈ p, x ∈ l
  | [], p, h => by
    have : p = [] := by simpa [splitL] using h
    subst this; exact ⟨by simp, by simp⟩
  | x :: l, p, h => by
    obtain ⟨q, qs, e⟩ := splitL_cons c l
    have ihq := splitL_mem (c := c) (l := l) (p := q) (by rw [e]; exact .head _)
    unfold splitL at h
    split at h
    · rcases List.mem_cons.mp h with h | h
      · subst h; exact ⟨by simp, by simp⟩
      · have ih := splitL_mem (c := c) (l := l) h
        exact ⟨ih.1, fun y hy => .tail _ (ih.2 y hy)⟩
    · rename_i hx
      rw [e] at h
      rcases List.mem_cons.mp h with h | h
      · subst h
        refine ⟨?_, ?_⟩
        · intro hm
          rcases List.mem_cons.mp hm with h1 | h1
          · exact hx h1.symm
          · exact ihq.1 h1
        · intro y hy
          rcases List.mem_cons.mp hy with h1 | h1
          · rw [h1]; exact .head _
          · exact .tail _ (ihq.2 y h1)
      · have ih := splitL_mem (c := c) (l := l) (p := p) (by rw [e]; exact .tail _ h)
        exact ⟨ih.1, fun y hy => .tail _ (ih.2 y hy)⟩
theorem splitL_len {c : Nat} : ∀ {l : List Nat} {p : List Nat}, p ∈ splitL c l → p.length ≤ l.length
  | [], p, h => by
    have : p = [] := by simpa [splitL] using h
    subst this; simp
  | x :: l, p, h => by
    obtain ⟨q, qs, e⟩ := splitL_cons c l
    have ihq := splitL_len (c := c) (l := l) (p := q) (by rw [e]; exact .head _)
    unfold splitL at h
    split at h
    · rcases List.mem_cons.mp h with h | h
      · subst h; simp
      · have ih := splitL_len (c := c) (l := l) h
        simp only [List.length_cons]; omega
    · rw [e] at h
      rcases List.mem_cons.mp h with h | h
      · subst h; simp only [List.length_cons, List.headD_cons]; omega
      · have ih := splitL_len (c := c) (l := l) (p := p) (by rw [e]; exact .tail _ h)
        simp only [List.length_cons]; omega
/-! the texts' split -/
open Builtin Builtin.Str in
theorem occ_fold (l : List Nat) (c : Nat) : ∀ (m a : Nat) (st : Array Nat × Nat), a + m = l.length + 1 → st.2 ≤ a → st.1.size ≤ a →
    (forIn (List.range' a m) st (StrLaws.occBody (mkS l) (mkS [c]) (mkS l).length ((mkS l).length + 1))).run.fst.toList = st.1.toList ++ (List.range' a m).filter fun i => l[i]? == some c
  | 0, a, st, _, _, _ => by simp
  | m + 1, a, st, h, h1, h2 => by
    rw [List.range'_succ, List.forIn_cons, List.filter_cons]
    unfold StrLaws.occBody
    by_cases hc : l[a]? = some c
    · have hl : a < l.length := (List.getElem?_eq_some_iff.mp hc).1
      have ht : ((st.fst.size < (mkS l).length + 1 ∧ st.snd ≤ a) ∧ a + (mkS [c]).length ≤ (mkS l).length) ∧ subAt (mkS l) (mkS [c]) a = true :=
        ⟨⟨⟨by rw [mkS_length]; omega, h1⟩, by rw [mkS_length, mkS_length, List.length_singleton]; omega⟩, (subAt_one l c a).mpr hc⟩
      rw [if_pos ht, hc]
      have ih := occ_fold l c m (a + 1) (st.fst.push a, a + (mkS [c]).length) (by omega) (by rw [mkS_length, List.length_singleton]; omega) (by simp; omega)
      refine ih.trans ?_
      simp
    · have ht : ¬ (((st.fst.size < (mkS l).length + 1 ∧ st.snd ≤ a) ∧ a + (mkS [c]).length ≤ (mkS l).length) ∧ subAt (mkS l) (mkS [c]) a = true) := fun x => hc ((subAt_one l c a).mp x.2)
      rw [if_neg ht]
      have ih := occ_fold l c m (a + 1) (st.fst, st.snd) (by omega) (by show st.snd ≤ a + 1; omega) (by show st.fst.size ≤ a + 1; omega)
      refine ih.trans ?_
      rw [show (l[a]? == some c) = false from beq_eq_false_iff_ne.mpr hc]
      rfl
open Builtin Builtin.Str in
theorem occ_all (l : List Nat) (c : Nat) : occurrences (mkS l) (mkS [c]) 0 (mkS l).length ((mkS l).length + 1) = (List.range' 0 (l.length + 1)).filter fun i => l[i]? == some c := by
  rw [StrLaws.occ_eq]
  have h := occ_fold l c (l.length + 1) 0 (#[], 0) (by omega) (Nat.le_refl _) (Nat.le_refl _)
  rw [show (mkS l).length + 1 - 0 = l.length + 1 from by rw [mkS_length]; rfl]
  simpa using h
open Builtin Builtin.Str in
theorem sub_mkS (l : List Nat) (a b : Nat) : strSub (mkS l) a b = mkS ((l.drop a).take (b - a)) := by
  apply Str.ext'
  apply Array.toList_inj.mp
  rw [StrLaws.strSub_toList, mkS_cps, mkS_cps]
theorem headStep (l : List Nat) {a e : Nat} (ha : a < l.length) (he : a + 1 ≤ e) : (l.drop a).take (e - a) = l[a] :: (l.drop (a + 1)).take (e - (a + 1)) := by
  rw [List.drop_eq_getElem_cons ha, show e - a = (e - (a + 1)) + 1 from by omega, List.take_succ_cons]
open Builtin Builtin.Str in
theorem parts_all (l : List Nat) (c : Nat) : ∀ (m a : Nat), a + m = l.length + 1 →
    StrLaws.partsFrom (mkS l) 1 a ((List.range' a m).filter fun i => l[i]? == some c) = (splitL c (l.drop a)).map mkS
  | 0, a, h => by
    rw [List.drop_of_length_le (by omega)]
    show [strSub (mkS l) a (mkS l).length] = _
    rw [sub_mkS, List.drop_of_length_le (by omega), List.take_nil]; rfl
  | m + 1, a, h => by
    rw [List.range'_succ, List.filter_cons]
    by_cases hl : a < l.length
    · have ih := parts_all l c m (a + 1) (by omega)
      rw [List.drop_eq_getElem_cons hl, List.getElem?_eq_getElem hl]
      unfold splitL
      by_cases hc : l[a] = c
      · rw [if_pos (by simp [hc]), if_pos hc]
        show strSub (mkS l) a a :: StrLaws.partsFrom (mkS l) 1 (a + 1) _ = _
        rw [ih, sub_mkS, Nat.sub_self, List.take_zero]; rfl
      · rw [if_neg (by simp [hc]), if_neg hc]
        obtain ⟨p, ps, e⟩ := splitL_cons c (l.drop (a + 1))
        rw [e] at ih ⊢
        have hge : ∀ k ∈ (List.range' (a + 1) m).filter (fun i => l[i]? == some c), a + 1 ≤ k := by
          intro k hk
          have := (List.mem_filter.mp hk).1
          simp [List.mem_range'] at this
          omega
        revert ih hge
        generalize (List.range' (a + 1) m).filter (fun i => l[i]? == some c) = cuts
        intro ih hge
        cases cuts with
        | nil =>
          have i1 : [strSub (mkS l) (a + 1) (mkS l).length] = (p :: ps).map mkS := ih
          show [strSub (mkS l) a (mkS l).length] = _
          rw [sub_mkS] at i1 ⊢
          rw [mkS_length] at i1 ⊢
          rw [headStep l hl (by omega)]
          rw [List.map_cons, List.cons.injEq] at i1
          have i2 := mkS_inj i1.1
          have i3 : ps = [] := List.map_eq_nil_iff.mp i1.2.symm
          rw [i2, i3]; rfl
        | cons k r =>
          have i1 : strSub (mkS l) (a + 1) k :: StrLaws.partsFrom (mkS l) 1 (k + 1) r = (p :: ps).map mkS := ih
          show strSub (mkS l) a k :: StrLaws.partsFrom (mkS l) 1 (k + 1) r = _
          rw [sub_mkS] at i1 ⊢
          rw [headStep l hl (hge k (.head _))]
          rw [List.map_cons, List.cons.injEq] at i1
          have i2 := mkS_inj i1.1
          rw [i1.2, i2]; rfl
    · have hm : m = 0 := by omega
      subst hm
      rw [List.getElem?_eq_none (by omega), List.drop_of_length_le (by omega)]
      show [strSub (mkS l) a (mkS l).length] = _
      rw [sub_mkS, List.drop_of_length_le (by omega), List.take_nil]; rfl
open Builtin Builtin.Str in
theorem split_mkS (l : List Nat) (c : Nat) : Txt.split (mkS l) (mkS [c]) = (splitL c l).map mkS := by
  have e : partsBetween (mkS l) (occurrences (mkS l) (mkS [c]) 0 (mkS l).length ((mkS l).length + 1)) (mkS [c]).length = (splitL c l).map mkS := by
    rw [occ_all, StrLaws.partsBetween_eq]
    have h := parts_all l c (l.length + 1) 0 (by omega)
    rwa [List.drop_zero] at h
  have no : c ∉ l → [mkS l] = (splitL c l).map mkS := fun h => by rw [splitL_none h]; rfl
  unfold Txt.split
  split
  · rename_i h
    refine no fun hc => ?_
    obtain ⟨i, hi⟩ := List.mem_iff_getElem?.mp hc
    have hs := (subAt_one l c i).mpr hi
    rcases Bool.or_eq_true_iff.mp h with h | h
    · have h1 := of_decide_eq_true h
      rw [mkS_length, mkS_length] at h1
      have := (List.getElem?_eq_some_iff.mp hi).1
      rw [List.length_singleton] at h1; omega
    · have h1 := of_decide_eq_true h
      have := PySem.W.kind_le _ _ hs
      omega
  · split
    · rename_i h
      refine no fun hc => ?_
      obtain ⟨i, hi⟩ := List.mem_iff_getElem?.mp hc
      rw [occ_all] at h
      have h1 := List.isEmpty_iff.mp h
      have : i ∈ (List.range' 0 (l.length + 1)).filter fun i => l[i]? == some c := List.mem_filter.mpr ⟨by
        have := (List.getElem?_eq_some_iff.mp hi).1
        simp [List.mem_range']; omega, by simp [hi]⟩
      rw [h1] at this; cases this
    · exact e
end Mine
namespace Mine
/-! lists of texts -/
noncomputable def SL (ps : List (List Nat)) : List Str := ps.map mkS
theorem SL_length (ps : List (List Nat)) : (SL ps).length = ps.length := by simp [SL]
theorem SL_app (a b : List (List Nat)) : SL (a ++ b) = SL a ++ SL b := by simp [SL]
section
variable {A : Around} {s : Shared} {D D2 : Addr} {vs ws : List Value} {α : Type} [DecidableEq α] {ps qs : List α}
theorem all_dec (hlen : ps.length = qs.length) : (List.range ps.length).all (fun j => decide (ps[j]? = qs[j]?)) = decide (ps = qs) := by
  by_cases h : ps = qs
  · subst h; simp
  · rw [decide_eq_false h]
    apply Bool.eq_false_iff.mpr
    intro ha
    apply h
    apply List.ext_getElem?
    intro i
    rcases Nat.lt_or_ge i ps.length with hi | hi
    · have := List.all_eq_true.mp ha i (List.mem_range.mpr hi)
      simpa using this
    · rw [List.getElem?_eq_none hi, List.getElem?_eq_none (by omega)]
theorem dec_some {p q : α} : decide (some p = some q) = decide (p = q) := decide_eq_decide.mpr ⟨fun e => Option.some.inj e, fun e => by rw [e]⟩
theorem lists_rcNe (hl : s.heap.IsList D vs.toArray) (hb : s.heap.IsList D2 ws.toArray) (h1 : vs.length = ps.length) (h2 : ws.length = qs.length) (hu : A.units < cLine)
    (he : ∀ (j : Nat) x y p q, vs[j]? = some x → ws[j]? = some y → ps[j]? = some p → qs[j]? = some q → SeqAt.EqAt A.in1 s x y (decide (p = q))) : SeqAt.RcNeAt A s (.ref D) (.ref D2) (decide (ps ≠ qs)) := by
  by_cases hlen : ps.length = qs.length
  · have h := SeqAt.RcNeAt.lists (A := A) (s := s) (e := fun j => decide (ps[j]? = qs[j]?)) hl hb (by simp; omega) hu (fun j j1 j2 => by
      simp at j1 j2
      have e1 : ps[j]? = some ps[j] := List.getElem?_eq_getElem (by omega)
      have e2 : qs[j]? = some qs[j] := List.getElem?_eq_getElem (by omega)
      show SeqAt.EqAt A.in1 s _ _ (decide (ps[j]? = qs[j]?))
      rw [e1, e2, dec_some]
      exact he j _ _ _ _ (by simp) (by simp) e1 e2)
    have e : (!(List.range vs.toArray.size).all (fun j => decide (ps[j]? = qs[j]?))) = decide (ps ≠ qs) := by
      rw [List.size_toArray, h1, all_dec hlen]
      by_cases hc : ps = qs <;> simp [hc]
    rw [e] at h; exact h
  · have h := SeqAt.RcNeAt.lists_lengths (A := A) (s := s) hl hb (by simp; omega) hu
    rw [decide_eq_true (show ps ≠ qs from fun e => hlen (by rw [e]))]; exact h
end
theorem strs_at {vs : List Value} {ps : List (List Nat)} (h : StrsAre vs (SL ps)) {i : Nat} {v : Value} (hv : vs[i]? = some v) : ∃ p t, ps[i]? = some p ∧ v = .str (mkS p) t := by
  obtain ⟨y, t, rfl, hy⟩ := StrsAre.item h i v hv
  unfold SL at hy
  rw [List.getElem?_map] at hy
  cases e : ps[i]? with
  | none => rw [e] at hy; cases hy
  | some p => rw [e] at hy; cases hy; exact ⟨p, t, rfl, rfl⟩
theorem SL_mem {a : Str} {ps : List (List Nat)} (h : a ∈ SL ps) : ∃ p ∈ ps, a = mkS p := by
  unfold SL at h
  obtain ⟨c, hc, rfl⟩ := List.mem_map.mp h
  exact ⟨c, hc, rfl⟩
theorem strs_len {vs : List Value} {ps : List (List Nat)} (h : StrsAre vs (SL ps)) : vs.length = ps.length := by rw [h.len_eq, SL_length]
theorem SL_filter (pz : Str → Bool) (p : List Nat → Bool) (h : ∀ x, pz (mkS x) = p x) (l : List (List Nat)) : (SL l).filter pz = SL (l.filter p) := by
  unfold SL
  rw [List.filter_map]
  congr 1
  exact List.filter_congr fun n _ => h n
theorem strs_snocS {vs : List Value} {ps : List (List Nat)} {p : List Nat} {t : Tok} (h : StrsAre vs (SL ps)) : StrsAre (vs ++ [.str (mkS p) t]) (SL (ps ++ [p])) := by
  rw [SL_app]
  exact h.append' (.cons _ _ .nil)
theorem strs_nil : StrsAre [] (SL []) := .nil
section
variable {prog : Program} {w : World} {A : Around} {E : Value → Shared → Prop} {s : Shared} {h₀ : Heap} {L D D2 : Addr} {m : PySem.Str → Option Value} {news : List (Addr × Obj)} {vs ws : List Value} {n n2 : Nat} {l l2 : List Nat} {ps qs : List (List Nat)} {t u : Tok} {x y : Str} {Q : Value → Shared → Prop} {value slice : PySem.Expr}
theorem add_S {l l2 : List Nat} (hx : x = mkS l) (hy : y = mkS l2) (hz : l.length ≤ 16384) (hz2 : l2.length ≤ 16384) (h : ∀ t' k, Q (.str (mkS (l ++ l2)) t') { s with toks := k }) : wpAny (model prog w) A (binaryOp .Add (.str x t) (.str y u)) Q E s := by
  subst hx; subst hy
  refine KXadd.add (K := 16384) (L := 16384) (by rw [mkS_length]; omega) (by rw [mkS_length]; omega) (by omega) fun t' k _ => ?_
  rw [mkS_app]
  exact h t' k
theorem strSplit_S {c : Nat} {y : Str} (F : Fr h₀ L s.heap m) (N : News h₀ L s.heap news) (hy : y = mkS [c]) (hz : l.length ≤ 16384)
    (h : ∀ D' us h' k, StrsAre us (SL (splitL c l)) → Fr h₀ L h' m → News h₀ L h' ((D', listOf (List.toArray us) 0) :: news) → (∀ p ∈ news, p.1 < D') → Q (.ref D') { s with heap := h', toks := k }) :
    wpAny (model prog w) A (call (.builtin "str.split") [.str (mkS l) t, .str y u]) Q E s := by
  subst hy
  refine KSpl.split1 F N rfl (fun D vs h' k e a F' N' l1 => h D _ h' k ?_ F' N' l1) (by rw [mkS_length, sizeLine_eq]; omega)
  rw [e, split_mkS] at a
  exact a
theorem ne_T (N : News h₀ L s.heap news) (hm : (D, listOf vs.toArray n) ∈ news) (hi : StrsAre vs (SL ps)) (hm2 : (D2, listOf ws.toArray n2) ∈ news) (hj : StrsAre ws (SL qs)) (hu : A.units < cLine) (h : Q (.bool (decide (ps ≠ qs))) s) :
    wpAny (model prog w) A (compareOp .NotEq (.ref D) (.ref D2)) Q E s :=
  lists_rcNe (News.isList N hm) (News.isList N hm2) (strs_len hi) (strs_len hj) hu (fun j x y p q hx hy hp hq => by
    obtain ⟨p', t, e1, rfl⟩ := strs_at hi hx
    obtain ⟨q', t2, e2, rfl⟩ := strs_at hj hy
    rw [hp] at e1; rw [hq] at e2
    cases e1; cases e2
    exact eqAt_S) prog w E Q h
theorem append_V {v : Value} {news' : List (Addr × Obj)} (F : Fr h₀ L s.heap m) (N : News h₀ L s.heap news) (U : Upd D (listOf vs.toArray n) (listOf (vs ++ [v]).toArray (n + 1)) news news') (hz : vs.length ≤ 16384) (h : ∀ h', Fr h₀ L h' m → News h₀ L h' news' → Q .none { s with heap := h' }) :
    wpAny (model prog w) A (call (.builtin "list.append") [.ref D, v]) Q E s := append_L F N U (by omega) h
theorem cps_len (x : Str) : x.cps.toList.length = x.length := by simp [Str.length]
end
end Mine
namespace Mine
theorem lit_ss : Str.ofString "//" = mkS [47, 47] := by decide +kernel
theorem lit_a : Str.ofString "a" = mkS [97] := by decide +kernel
/-! normpath, plainly -/
noncomputable def rootL (l : List Nat) : List Nat := if l.take 1 ≠ [47] then [] else if (l.drop 1).take 1 ≠ [47] ∨ (l.drop 2).take 1 = [47] then [47] else [47, 47]
noncomputable def nstep (root : List Nat) (acc : List (List Nat)) (p : List Nat) : List (List Nat) :=
  if p = [] ∨ p = [46] then acc
  else if p ≠ [46, 46] ∨ (root = [] ∧ acc = []) ∨ acc.getLast? = some [46, 46] then acc ++ [p] else acc.dropLast
noncomputable def ncomps (l : List Nat) : List (List Nat) := (splitL 47 (l.drop (rootL l).length)).foldl (nstep (rootL l)) []
noncomputable def normL (l : List Nat) : List Nat :=
  if l = [] then [46] else if rootL l ++ joinL [47] (ncomps l) = [] then [46] else rootL l ++ joinL [47] (ncomps l)
theorem pySl01 (l : List Nat) : pySl l none (some 1) = l.take 1 := pySl_to l 1
theorem pySl02 (l : List Nat) : pySl l none (some 2) = l.take 2 := pySl_to l 2
theorem pySl12 (l : List Nat) : pySl l (some 1) (some 2) = (l.drop 1).take 1 := pySl_ft l 1 2
theorem pySl23 (l : List Nat) : pySl l (some 2) (some 3) = (l.drop 2).take 1 := pySl_ft l 2 3
theorem pySl1 (l : List Nat) : pySl l (some 1) none = l.drop 1 := pySl_from l 1
theorem pySl2 (l : List Nat) : pySl l (some 2) none = l.drop 2 := pySl_from l 2
theorem root_0 {l : List Nat} (h : pySl l none (some 1) ≠ [47]) : rootL l = [] := by
  rw [pySl01] at h; unfold rootL; rw [if_pos h]
theorem root_1 {l : List Nat} (h : ¬ pySl l none (some 1) ≠ [47]) (h2 : pySl l (some 1) (some 2) ≠ [47]) : rootL l = [47] := by
  rw [pySl01] at h; rw [pySl12] at h2; unfold rootL; rw [if_neg h, if_pos (.inl h2)]
theorem root_1b {l : List Nat} (h : ¬ pySl l none (some 1) ≠ [47]) (h2 : pySl l (some 2) (some 3) = [47]) : rootL l = [47] := by
  rw [pySl01] at h; rw [pySl23] at h2; unfold rootL; rw [if_neg h, if_pos (.inr h2)]
theorem root_2 {l : List Nat} (h : ¬ pySl l none (some 1) ≠ [47]) (h2 : ¬ pySl l (some 1) (some 2) ≠ [47]) (h3 : ¬ pySl l (some 2) (some 3) = [47]) : rootL l = [47, 47] := by
  rw [pySl01] at h; rw [pySl12] at h2; rw [pySl23] at h3; unfold rootL; rw [if_neg h, if_neg (by rintro (h | h); exact h2 h; exact h3 h)]
theorem two_take {l : List Nat} (h : ¬ pySl l none (some 1) ≠ [47]) (h2 : ¬ pySl l (some 1) (some 2) ≠ [47]) : pySl l none (some 2) = [47, 47] := by
  rw [pySl01] at h; rw [pySl12] at h2; rw [pySl02]
  have e1 : l.take 1 = [47] := Decidable.not_not.mp h
  have e2 : (l.drop 1).take 1 = [47] := Decidable.not_not.mp h2
  have e := List.take_add (l := l) (i := 1) (j := 1)
  rw [e1, e2] at e
  exact e
theorem rootL_length (l : List Nat) : (rootL l).length ≤ 2 := by unfold rootL; split; simp; split <;> simp
theorem nstep_a {root : List Nat} {acc : List (List Nat)} {p : List Nat} (h : ¬ p ≠ []) : nstep root acc p = acc := by
  unfold nstep; rw [if_pos (.inl (Decidable.not_not.mp h))]
theorem nstep_a' {root : List Nat} {acc : List (List Nat)} {p : List Nat} (h : p = []) : nstep root acc p = acc := nstep_a fun x => x h
theorem nstep_b {root : List Nat} {acc : List (List Nat)} {p : List Nat} (h : p = [46]) : nstep root acc p = acc := by
  unfold nstep; rw [if_pos (.inr h)]
theorem nstep_c {root : List Nat} {acc : List (List Nat)} {p : List Nat} (h : p ≠ []) (h2 : ¬ p = [46]) (h3 : p ≠ [46, 46]) : nstep root acc p = acc ++ [p] := by
  unfold nstep; rw [if_neg (by rintro (x | x); exact h x; exact h2 x), if_pos (.inl h3)]
theorem nstep_d {root : List Nat} {acc : List (List Nat)} {p : List Nat} (h : p ≠ []) (h2 : ¬ p = [46]) (h3 : ¬ root ≠ []) (h4 : acc = []) : nstep root acc p = acc ++ [p] := by
  unfold nstep; rw [if_neg (by rintro (x | x); exact h x; exact h2 x), if_pos (.inr (.inl ⟨Decidable.not_not.mp h3, h4⟩))]
theorem nstep_e {root : List Nat} {acc : List (List Nat)} {p q : List Nat} (h : p ≠ []) (h2 : ¬ p = [46]) (h3 : acc.getLast? = some q) (h4 : q = [46, 46]) : nstep root acc p = acc ++ [p] := by
  unfold nstep; rw [if_neg (by rintro (x | x); exact h x; exact h2 x), if_pos (.inr (.inr (by rw [h3, h4])))]
theorem nstep_f {root : List Nat} {acc : List (List Nat)} {p q : List Nat} (h : p ≠ []) (h2 : ¬ p = [46]) (h3 : ¬ p ≠ [46, 46]) (h4 : acc.getLast? = some q) (h5 : ¬ q = [46, 46]) : nstep root acc p = acc.dropLast := by
  unfold nstep; rw [if_neg (by rintro (x | x); exact h x; exact h2 x), if_neg]
  rintro (x | ⟨_, x⟩ | x)
  · exact h3 x
  · rw [x] at h4; cases h4
  · rw [h4] at x; cases x; exact h5 rfl
theorem nstep_g {root : List Nat} {acc : List (List Nat)} {p : List Nat} (h : p ≠ []) (h2 : ¬ p = [46]) (h3 : ¬ p ≠ [46, 46]) (h4 : root ≠ []) (h5 : acc = []) : nstep root acc p = acc := by
  unfold nstep; rw [if_neg (by rintro (x | x); exact h x; exact h2 x), if_neg]
  · rw [h5]; rfl
  · rintro (x | ⟨x, _⟩ | x)
    · exact h3 x
    · exact h4 x
    · rw [h5] at x; cases x
theorem nstep_len {root : List Nat} {acc : List (List Nat)} {p : List Nat} : (nstep root acc p).length ≤ acc.length + 1 := by
  unfold nstep
  split
  · omega
  · split
    · simp
    · rw [List.length_dropLast]; omega
theorem fold_take {root : List Nat} {ps acc : List (List Nat)} {i : Nat} {p : List Nat} (h : ps[i]? = some p) (e : acc = (ps.take i).foldl (nstep root) []) : (ps.take (i + 1)).foldl (nstep root) [] = nstep root acc p := by
  rw [List.take_add_one, h, List.foldl_append, ← e]; rfl
theorem nstep_mem {root : List Nat} {acc : List (List Nat)} {p : List Nat} {P : List Nat → Prop} (h : ∀ q ∈ acc, P q) (hp : P p) : ∀ q ∈ nstep root acc p, P q := by
  unfold nstep
  split
  · exact h
  · split
    · intro q hq
      rcases List.mem_append.mp hq with hq | hq
      · exact h q hq
      · rw [List.mem_singleton.mp hq]; exact hp
    · exact fun q hq => h q (List.dropLast_subset _ hq)
theorem fold_mem {root : List Nat} {P : List Nat → Prop} : ∀ {ps acc : List (List Nat)}, (∀ q ∈ acc, P q) → (∀ q ∈ ps, P q) → ∀ q ∈ ps.foldl (nstep root) acc, P q
  | [], _, h, _ => h
  | _ :: ps, _, h, hp => fold_mem (ps := ps) (nstep_mem h (hp _ (.head _))) fun q hq => hp q (.tail _ hq)
theorem fold_len {root : List Nat} : ∀ {ps acc : List (List Nat)}, (ps.foldl (nstep root) acc).length ≤ acc.length + ps.length
  | [], _ => by simp
  | p :: ps, acc => by
    have := fold_len (root := root) (ps := ps) (acc := nstep root acc p)
    have := nstep_len (root := root) (acc := acc) (p := p)
    rw [List.foldl_cons, List.length_cons]; omega
/-- the weight of what is joined -/
noncomputable def wt (ps : List (List Nat)) : Nat := (ps.map (·.length + 1)).sum
theorem wt_join (sep : Nat) : ∀ ps : List (List Nat), (joinL [sep] ps).length ≤ wt ps
  | [] => Nat.zero_le _
  | [x] => by show x.length ≤ _; simp [wt]
  | x :: y :: r => by
    have := wt_join sep (y :: r)
    show (x ++ [sep] ++ joinL [sep] (y :: r)).length ≤ _
    simp only [wt, List.map_cons, List.sum_cons, List.length_append, List.length_singleton] at *
    omega
theorem wt_split (c : Nat) : ∀ l : List Nat, wt (splitL c l) = l.length + 1
  | [] => rfl
  | x :: l => by
    have ih := wt_split c l
    obtain ⟨p, ps, e⟩ := splitL_cons c l
    unfold splitL
    split
    · simp only [wt, List.map_cons, List.sum_cons, List.length_cons, List.length_nil] at *; omega
    · rw [e] at ih ⊢
      simp only [wt, List.map_cons, List.sum_cons, List.length_cons, List.headD_cons, List.tail_cons] at *; omega
theorem wt_app (a b : List (List Nat)) : wt (a ++ b) = wt a + wt b := by simp [wt]
theorem wt_drop (a : List (List Nat)) : wt a.dropLast ≤ wt a := by
  rcases List.eq_nil_or_concat a with e | ⟨r, x, e⟩
  · rw [e]; exact Nat.le_refl _
  · rw [e, List.concat_eq_append, List.dropLast_concat, wt_app]; omega
theorem wt_fold {root : List Nat} : ∀ {ps acc : List (List Nat)}, wt (ps.foldl (nstep root) acc) ≤ wt acc + wt ps
  | [], _ => by simp
  | p :: ps, acc => by
    have := wt_fold (root := root) (ps := ps) (acc := nstep root acc p)
    have h2 : wt (nstep root acc p) ≤ wt acc + wt [p] := by
      unfold nstep
      split
      · omega
      · split
        · rw [wt_app]; omega
        · have := wt_drop acc; omega
    have h3 : wt (p :: ps) = wt [p] + wt ps := by rw [← wt_app]; rfl
    rw [List.foldl_cons]; omega
theorem wt_sum (ps : List (List Nat)) : ((SL ps).map (·.length)).sum + ps.length = wt ps := by
  induction ps with
  | nil => rfl
  | cons p ps ih =>
    simp only [SL, wt, List.map_cons, List.sum_cons, List.length_cons, mkS_length] at *
    omega
theorem ncomps_wt (l : List Nat) : wt (ncomps l) ≤ l.length + 1 := by
  unfold ncomps
  have := wt_fold (root := rootL l) (ps := splitL 47 (l.drop (rootL l).length)) (acc := [])
  have h2 := wt_split 47 (l.drop (rootL l).length)
  rw [List.length_drop] at h2
  simp only [wt, List.map_nil, List.sum_nil] at *
  omega
section
variable {prog : Program} {w : World} {A : Around} {E : Value → Shared → Prop} {s : Shared} {h₀ : Heap} {L D D2 : Addr} {m : PySem.Str → Option Value} {news news' : List (Addr × Obj)} {vs ws : List Value} {n n2 : Nat} {l l2 : List Nat} {ps qs : List (List Nat)} {t u : Tok} {x y : Str} {Q : Value → Shared → Prop} {value slice : PySem.Expr}
theorem truthy_V {R : Bool → Shared → Prop} (N : News h₀ L s.heap news) (hm : (D, listOf vs.toArray n) ∈ news) (hl : vs.length = ps.length) (hz : ps.length ≤ 16384) (h : ∀ k, R (decide (ps ≠ [])) { s with toks := k }) : wpAny (model prog w) A (truthy (.ref D)) R E s := by
  refine wpAny_truthy_list (News.isList N hm) (by simp; omega) ?_
  have e : (!vs.toArray.isEmpty) = decide (ps ≠ []) := by
    cases ps with
    | nil => have : vs = [] := List.length_eq_zero_iff.mp hl; subst this; rfl
    | cons p ps => cases vs with
      | nil => cases hl
      | cons v vs => rfl
  rw [e]; exact h _
theorem itemLast_V {v : Value} {u : Tok} (N : News h₀ L s.heap news) (hm : (D, listOf vs.toArray n) ∈ news) (hv : vs.getLast? = some v) (hz : vs.length ≤ 16384) (h : Q v s)
    (hs : subscripted slice false (.ref D) (.int (-1) u) = operate [.ref D, .int (-1) u] (getItem (.ref D) (.int (-1) u)) := by with_unfolding_all rfl) (hg : ∀ r, letTemporaryGo value (.ref D) r = pure () := by intro _; with_unfolding_all rfl) :
    wpAny (model prog w) A (subscriptTail value slice (.ref D) (.int (-1) u)) Q E s := by
  have hne : vs ≠ [] := by intro e; rw [e] at hv; cases hv
  have hp := List.length_pos_iff.mpr hne
  refine subscriptTail_builtin (News.isList N hm).typeIs slot_list_getitem.lookup (wpAny_getItem_list_neg (News.isList N hm) (by decide) (by simp; omega) (by decide) (x := v) ?_ h) hs hg
  rw [show ((-1 : Int) + (vs.toArray.size : Int)).toNat = vs.length - 1 from by simp; omega]
  rw [List.getLast?_eq_getElem?] at hv
  simpa using hv
theorem last_T (hi : StrsAre vs (SL ps)) (hp : ps ≠ []) : ∃ q t, ps.getLast? = some q ∧ vs.getLast? = some (.str (mkS q) t) := by
  have hl := strs_len hi
  have h0 := List.length_pos_iff.mpr hp
  have e : vs.getLast? = vs[vs.length - 1]? := List.getLast?_eq_getElem?
  have e1 : vs[vs.length - 1]? = some vs[vs.length - 1] := List.getElem?_eq_getElem (by omega)
  obtain ⟨p, t, h1, h2⟩ := strs_at hi e1
  refine ⟨p, t, ?_, ?_⟩
  · rw [List.getLast?_eq_getElem?, ← hl, h1]
  · rw [e, e1, h2]
theorem itemLast_T {u : Tok} (N : News h₀ L s.heap news) (hm : (D, listOf vs.toArray n) ∈ news) (hi : StrsAre vs (SL ps)) (hp : ps ≠ []) (hz : ps.length ≤ 16384) (h : ∀ q t, ps.getLast? = some q → Q (.str (mkS q) t) s)
    (hs : subscripted slice false (.ref D) (.int (-1) u) = operate [.ref D, .int (-1) u] (getItem (.ref D) (.int (-1) u)) := by with_unfolding_all rfl) (hg : ∀ r, letTemporaryGo value (.ref D) r = pure () := by intro _; with_unfolding_all rfl) :
    wpAny (model prog w) A (subscriptTail value slice (.ref D) (.int (-1) u)) Q E s := by
  obtain ⟨q, t, h1, h2⟩ := last_T hi hp
  exact itemLast_V N hm h2 (by rw [strs_len hi]; exact hz) (h q t h1) hs hg
theorem itemAt_T {x : Int} {u : Tok} (N : News h₀ L s.heap news) (hm : (D, listOf vs.toArray n) ∈ news) (hi : StrsAre vs (SL ps)) (h0 : 0 ≤ x) (h1 : x < ps.length) (hz : ps.length ≤ 16384) (h : ∀ q t, ps[x.toNat]? = some q → Q (.str (mkS q) t) s)
    (hs : subscripted slice false (.ref D) (.int x u) = operate [.ref D, .int x u] (getItem (.ref D) (.int x u)) := by with_unfolding_all rfl) (hg : ∀ r, letTemporaryGo value (.ref D) r = pure () := by intro _; with_unfolding_all rfl) :
    wpAny (model prog w) A (subscriptTail value slice (.ref D) (.int x u)) Q E s := by
  have hl := strs_len hi
  have e1 : vs[x.toNat]? = some vs[x.toNat] := List.getElem?_eq_getElem (by omega)
  obtain ⟨p, t, h2, h3⟩ := strs_at hi e1
  refine subscriptTail_builtin (News.isList N hm).typeIs slot_list_getitem.lookup (wpAny_getItem_list (News.isList N hm) h0 (by omega) (x := vs[x.toNat]) ?_ ?_) hs hg
  · simpa using e1
  · rw [h3]; exact h p t h2
theorem kl_last_eq : ∀ {vs : List Value} {v : Value}, vs.getLast? = some v → kl_last vs = some (vs.dropLast, v)
  | [], _, h => by cases h
  | [x], _, h => by cases h; rfl
  | x :: y :: r, v, h => by
    have ih := kl_last_eq (vs := y :: r) (v := v) (by simpa using h)
    unfold kl_last
    rw [ih]; rfl
theorem pop_V {v : Value} (F : Fr h₀ L s.heap m) (N : News h₀ L s.heap news) (hv : vs.getLast? = some v) (U : Upd D (listOf vs.toArray n) (listOf vs.dropLast.toArray (n + 1)) news news') (hz : vs.length ≤ 16384) (h : ∀ h', Fr h₀ L h' m → News h₀ L h' news' → Q v { s with heap := h' }) :
    wpAny (model prog w) A (call (.builtin "list.pop") [.ref D]) Q E s :=
  kl_pop F N (kl_last_eq hv) U (by rw [sizeLine_eq]; simp; omega) h
theorem pop_T (F : Fr h₀ L s.heap m) (N : News h₀ L s.heap news) (hi : StrsAre vs (SL ps)) (hp : ps ≠ []) (U : Upd D (listOf vs.toArray n) (listOf vs.dropLast.toArray (n + 1)) news news') (hz : ps.length ≤ 16384) (h : ∀ h' q t, Fr h₀ L h' m → News h₀ L h' news' → Q (.str (mkS q) t) { s with heap := h' }) :
    wpAny (model prog w) A (call (.builtin "list.pop") [.ref D]) Q E s := by
  obtain ⟨q, t, h1, h2⟩ := last_T hi hp
  exact pop_V F N h2 U (by rw [strs_len hi]; exact hz) fun h' F' N' => h h' q t F' N'
theorem strs_dropLast {vs : List Value} {ps : List (List Nat)} (hi : StrsAre vs (SL ps)) : StrsAre vs.dropLast (SL ps.dropLast) := by
  have h := StrsAre.take' hi (vs.length - 1)
  rw [List.dropLast_eq_take, List.dropLast_eq_take]
  unfold SL at *
  rw [← List.map_take] at h
  rw [strs_len hi] at h ⊢
  exact h
theorem notin_T {k : List Nat} (N : News h₀ L s.heap news) (hm : (D, listOf vs.toArray n) ∈ news) (hi : StrsAre vs (SL ps)) (h : Q (.bool (decide (k ∉ ps))) s) : wpAny (model prog w) A (compareOp .NotIn (.str (mkS k) t) (.ref D)) Q E s :=
  notin_list_strs (News.isList N hm) hi (by
    have e : (!((SL ps).any (· == mkS k))) = decide (k ∉ ps) := by
      by_cases hc : k ∈ ps
      · have : (SL ps).any (· == mkS k) = true := List.any_eq_true.mpr ⟨mkS k, List.mem_map.mpr ⟨k, hc, rfl⟩, by simp⟩
        simp [this, hc]
      · have : (SL ps).any (· == mkS k) = false := by
          apply Bool.eq_false_iff.mpr
          intro ha
          obtain ⟨y, hy, he⟩ := List.any_eq_true.mp ha
          obtain ⟨p, hp, rfl⟩ := SL_mem hy
          exact hc (mkS_inj (eq_of_beq he) ▸ hp)
        simp [this, hc]
    rw [e]; exact h)
theorem strs_lit2 (a b : Tok) : StrsAre [.str (Str.ofString "") a, .str (Str.ofString ".") b] (SL [[], [46]]) := by
  rw [lit_nil, lit_dot]; exact .cons _ _ (.cons _ _ .nil)
theorem join_S {c : Nat} {y : Str} (N : News h₀ L s.heap news) (hy : y = mkS [c]) (hm : (D, listOf vs.toArray n) ∈ news) (hi : StrsAre vs (SL ps)) (hz : wt ps ≤ 16384) (h : ∀ t' k, Q (.str (mkS (joinL [c] ps)) t') { s with toks := k }) :
    wpAny (model prog w) A (call (.builtin "str.join") [.str y t, .ref D]) Q E s := by
  subst hy
  refine join_listC (ys := SL ps) (News.isList N hm) hi (by rw [mkS_length]; simp) ?_ fun t' k => ?_
  · have e := wt_sum ps
    have : ps.length ≤ wt ps := by omega
    rw [SL_length]; omega
  · unfold SL; rw [join_mkS]; exact h t' k
end
end Mine
namespace Mine
/-! lists of bytes -/
noncomputable def BysAre : List Value → List (List Nat) → Prop
  | [], [] => True
  | v :: vs, p :: ps => (∃ t, v = .bytes (mkB p) t) ∧ BysAre vs ps
  | _, _ => False
theorem bys_nil : BysAre [] [] := True.intro
theorem bys_len : ∀ {vs : List Value} {ps : List (List Nat)}, BysAre vs ps → vs.length = ps.length
  | [], [], _ => rfl
  | [], _ :: _, h => h.elim
  | _ :: _, [], h => h.elim
  | _ :: _, _ :: _, h => by rw [List.length_cons, List.length_cons, bys_len h.2]
theorem bys_at : ∀ {vs : List Value} {ps : List (List Nat)}, BysAre vs ps → ∀ {i : Nat} {v : Value}, vs[i]? = some v → ∃ p t, ps[i]? = some p ∧ v = .bytes (mkB p) t
  | [], [], _, i, v, h => by simp at h
  | [], _ :: _, h, _, _, _ => h.elim
  | _ :: _, [], h, _, _, _ => h.elim
  | w :: vs, p :: ps, h, i, v, hv => by
    cases i with
    | zero => obtain ⟨⟨t, e⟩, _⟩ := h; simp at hv; exact ⟨p, t, rfl, by rw [← hv, e]⟩
    | succ i => simp at hv; simpa using bys_at h.2 hv
theorem bys_app : ∀ {vs ws : List Value} {ps qs : List (List Nat)}, BysAre vs ps → BysAre ws qs → BysAre (vs ++ ws) (ps ++ qs)
  | [], _, [], _, _, h2 => h2
  | [], _, _ :: _, _, h, _ => h.elim
  | _ :: _, _, [], _, h, _ => h.elim
  | _ :: _, _, _ :: _, _, h, h2 => ⟨h.1, bys_app h.2 h2⟩
theorem bys_snoc {vs : List Value} {ps : List (List Nat)} {p : List Nat} {t : Tok} (h : BysAre vs ps) : BysAre (vs ++ [.bytes (mkB p) t]) (ps ++ [p]) := bys_app h ⟨⟨t, rfl⟩, True.intro⟩
theorem bys_take : ∀ {vs : List Value} {ps : List (List Nat)}, BysAre vs ps → ∀ k, BysAre (vs.take k) (ps.take k)
  | _, _, _, 0 => by simp [BysAre]
  | [], [], _, k + 1 => by simp [BysAre]
  | [], _ :: _, h, _ => h.elim
  | _ :: _, [], h, _ => h.elim
  | _ :: _, _ :: _, h, k + 1 => ⟨h.1, bys_take h.2 k⟩
theorem bys_dropLast {vs : List Value} {ps : List (List Nat)} (h : BysAre vs ps) : BysAre vs.dropLast ps.dropLast := by
  rw [List.dropLast_eq_take, List.dropLast_eq_take, bys_len h]
  exact bys_take h _
theorem small_join : ∀ {ps : List (List Nat)}, (∀ p ∈ ps, Small p) → Small (joinL [47] ps)
  | [], _ => Small.nil
  | [x], h => h x (.head _)
  | x :: y :: r, h => ((h x (.head _)).append (Small.one (by decide))).append (small_join (ps := y :: r) fun p hp => h p (.tail _ hp))
theorem small_root (l : List Nat) : Small (rootL l) := by
  unfold rootL
  split
  · exact Small.nil
  · split
    · exact Small.one (by decide)
    · intro c hc; simp at hc; omega
theorem small_comps {l : List Nat} (hs : Small l) : ∀ p ∈ ncomps l, Small p := by
  unfold ncomps
  exact fold_mem (by simp) fun q hq c hc => hs c (List.mem_of_mem_drop ((splitL_mem hq).2 c hc))
theorem small_norm {l : List Nat} (hs : Small l) : Small (rootL l ++ joinL [47] (ncomps l)) := (small_root l).append (small_join (small_comps hs))
end Mine
namespace Mine
open Builtin in
theorem bocc_go (l : List Nat) (c : Nat) (hs : Small l) (hc : c < 256) : ∀ n, n ≤ l.length → ∃ k, k ≤ n ∧
    ((List.range n).map (· + 0)).foldl (fun (acc : List Nat × Nat) (i : Nat) => if i ≥ acc.2 && (mkB l).extract i (i + (mkB [c]).size) == mkB [c] then (i :: acc.1, i + (mkB [c]).size) else acc) ([], 0) = (((List.range n).filter fun i => l[i]? == some c).reverse, k)
  | 0, _ => ⟨0, Nat.le_refl _, rfl⟩
  | n + 1, h => by
    obtain ⟨k, hk, e⟩ := bocc_go l c hs hc n (by omega)
    have hn : n < l.length := by omega
    have e2 : ((mkB l).extract n (n + (mkB [c]).size) == mkB [c]) = (l[n]? == some c) := by
      rw [mkB_extract, mkB_size, mkB_beq (hs.sub fun x hx => List.mem_of_mem_drop (List.mem_of_mem_take hx)) (Small.one hc)]
      rw [List.length_singleton, Nat.add_sub_cancel_left, List.take_one, List.head?_drop, List.getElem?_eq_getElem hn]
      simp
    rw [List.range_succ, List.map_append, List.foldl_append, e, List.filter_append, List.reverse_append]
    simp only [List.map_cons, List.map_nil, List.foldl_cons, List.foldl_nil, Nat.add_zero, e2]
    by_cases hx : l[n]? = some c
    · refine ⟨n + 1, Nat.le_refl _, ?_⟩
      rw [if_pos (by simp [hx]; omega), List.filter_cons, if_pos (by simp [hx]), mkB_size]
      rfl
    · refine ⟨k, by omega, ?_⟩
      rw [if_neg (by simp [hx]), List.filter_cons, if_neg (by simp [hx])]
      rfl
open Builtin in
theorem bocc_all (l : List Nat) (c : Nat) (hs : Small l) (hc : c < 256) : Bytes.occurrences (mkB l) (mkB [c]) 0 (mkB l).size = (List.range l.length).filter fun i => l[i]? == some c := by
  unfold Bytes.occurrences
  obtain ⟨k, _, e⟩ := bocc_go l c hs hc l.length (Nat.le_refl _)
  have e1 : (mkB l).size + 1 - (0 + (mkB [c]).size) = l.length := by rw [mkB_size, mkB_size]; simp
  rw [e1]
  show ((((List.range l.length).map (· + 0)).foldl _ ([], 0)).1).reverse = _
  rw [e, List.reverse_reverse]
end Mine
namespace Mine
noncomputable def bfrom (b : Array UInt8) : Nat → List Nat → List (Array UInt8)
  | a, [] => [b.extract a b.size]
  | a, c :: r => b.extract a c :: bfrom b (c + 1) r
open Builtin in
theorem between_go (b : Array UInt8) : ∀ (cuts : List Nat) (parts : Array (Array UInt8)) (a : Nat),
    (((cuts.foldl (fun (st : Array (Array UInt8) × Nat) p => (st.1.push (b.extract st.2 p), p + 1)) (parts, a)).1).push (b.extract (cuts.foldl (fun (st : Array (Array UInt8) × Nat) p => (st.1.push (b.extract st.2 p), p + 1)) (parts, a)).2 b.size)).toList = parts.toList ++ bfrom b a cuts
  | [], parts, a => by simp [bfrom]
  | c :: r, parts, a => by
    rw [List.foldl_cons]
    have ih := between_go b r (parts.push (b.extract a c)) (c + 1)
    rw [ih]
    simp [bfrom]
open Builtin in
theorem between_eq (b : Array UInt8) (cuts : List Nat) : Bytes.between b 1 cuts = bfrom b 0 cuts := by
  have h := between_go b cuts #[] 0
  simpa [Bytes.between] using h
theorem bparts_all (l : List Nat) (c : Nat) : ∀ (m a : Nat), a + m = l.length →
    bfrom (mkB l) a ((List.range' a m).filter fun i => l[i]? == some c) = (splitL c (l.drop a)).map mkB
  | 0, a, h => by
    rw [List.drop_of_length_le (by omega)]
    show [(mkB l).extract a (mkB l).size] = _
    rw [mkB_extract, List.drop_of_length_le (by omega), List.take_nil]; rfl
  | m + 1, a, h => by
    rw [List.range'_succ, List.filter_cons]
    have hl : a < l.length := by omega
    have ih := bparts_all l c m (a + 1) (by omega)
    rw [List.drop_eq_getElem_cons hl, List.getElem?_eq_getElem hl]
    unfold splitL
    by_cases hc : l[a] = c
    · rw [if_pos (by simp [hc]), if_pos hc]
      show (mkB l).extract a a :: bfrom (mkB l) (a + 1) _ = _
      rw [ih, mkB_extract, Nat.sub_self, List.take_zero]; rfl
    · rw [if_neg (by simp [hc]), if_neg hc]
      obtain ⟨p, ps, e⟩ := splitL_cons c (l.drop (a + 1))
      rw [e] at ih ⊢
      have hge : ∀ k ∈ (List.range' (a + 1) m).filter (fun i => l[i]? == some c), a + 1 ≤ k := by
        intro k hk
        have := (List.mem_filter.mp hk).1
        simp [List.mem_range'] at this
        omega
      revert ih hge
      generalize (List.range' (a + 1) m).filter (fun i => l[i]? == some c) = cuts
      intro ih hge
      have cons2 : ∀ e2, a + 1 ≤ e2 → (mkB l).extract a e2 = ⟨(l[a].toUInt8) :: ((mkB l).extract (a + 1) e2).toList⟩ := by
        intro e2 he
        rw [mkB_extract, mkB_extract, headStep l hl he]
        simp [mkB]
      have head : ∀ (x : Array UInt8), x = mkB p → (⟨(l[a].toUInt8) :: x.toList⟩ : Array UInt8) = mkB (l[a] :: p) := by
        intro x hx; rw [hx]; simp [mkB]
      cases cuts with
      | nil =>
        have i1 : [(mkB l).extract (a + 1) (mkB l).size] = (p :: ps).map mkB := ih
        show [(mkB l).extract a (mkB l).size] = _
        rw [List.map_cons, List.cons.injEq] at i1
        have i3 : ps = [] := List.map_eq_nil_iff.mp i1.2.symm
        rw [cons2 _ (by rw [mkB_size]; omega), head _ i1.1, i3]; rfl
      | cons k r =>
        have i1 : (mkB l).extract (a + 1) k :: bfrom (mkB l) (k + 1) r = (p :: ps).map mkB := ih
        show (mkB l).extract a k :: bfrom (mkB l) (k + 1) r = _
        rw [List.map_cons, List.cons.injEq] at i1
        rw [cons2 _ (hge k (.head _)), head _ i1.1, i1.2]; rfl
open Builtin in
theorem split_mkB (l : List Nat) (c : Nat) (hs : Small l) (hc : c < 256) : Bytes.between (mkB l) 1 (Bytes.occurrences (mkB l) (mkB [c]) 0 (mkB l).size) = (splitL c l).map mkB := by
  rw [between_eq, bocc_all l c hs hc, List.range_eq_range']
  have h := bparts_all l c l.length 0 (by omega)
  rwa [List.drop_zero] at h
end Mine
namespace Mine
/-! bytes.split and bytes.join called -/
theorem mapM_mkB {M : Model} {A : Around} {E : Value → Shared → Prop} : ∀ (ps : List (List Nat)) (s : Shared) (Q : List Value → Shared → Prop), (∀ p ∈ ps, p.length ≤ sizeLine) → (∀ us k, BysAre us ps → Q us { s with toks := k }) → wpAny M A ((ps.map mkB).mapM mkBytes) Q E s
  | [], s, Q, _, h => by rw [List.map_nil, List.mapM_nil]; exact wpAny_pure (h [] s.toks bys_nil)
  | p :: ps, s, Q, hx, h => by
    rw [List.map_cons, List.mapM_cons]
    refine wpAny_bind (wpAny_mkBytes (wpAny_bind (mapM_mkB ps _ _ (fun y hy => hx y (.tail _ hy)) fun us k hu => wpAny_pure ?_)) (by rw [mkB_size]; exact hx p (.head _)))
    exact h (.bytes (mkB p) s.toks :: us) k ⟨⟨_, rfl⟩, hu⟩
section
open Builtin
variable {prog : Program} {w : World} {A : Around} {E : Value → Shared → Prop} {s : Shared} {h₀ : Heap} {L D : Addr} {m : PySem.Str → Option Value} {news : List (Addr × Obj)} {l : List Nat} {c : Nat} {t u : Tok} {vs : List Value} {n : Nat} {ps : List (List Nat)} {b : Array UInt8}
theorem wt_mem {p : List Nat} : ∀ {ps : List (List Nat)}, p ∈ ps → p.length + 1 ≤ wt ps
  | q :: ps, h => by
    have e : wt (q :: ps) = q.length + 1 + wt ps := by simp [wt]
    rw [e]
    rcases List.mem_cons.mp h with rfl | h
    · omega
    · have := wt_mem h; omega
theorem bind_sep {x : Value} : Bytes.bindOptional "bytes.split" "split" ["sep", "maxsplit"] [x] [] = pure [some x, none] := rfl
theorem gives_splitB {Q : Fin → Shared → Prop} (F : Fr h₀ L s.heap m) (N : News h₀ L s.heap news) (hs : Small l) (hc : c < 256) (hz : l.length ≤ 4096)
    (h : ∀ D' us h' k, BysAre us (splitL c l) → Fr h₀ L h' m → News h₀ L h' ((D', listOf (List.toArray us) 0) :: news) → (∀ p ∈ news, p.1 < D') → Q (.done (.ret (.ref D'))) { s with heap := h', toks := k }) :
    wpAny (model prog w) A («bytes.split» ⟨[.bytes (mkB l) t, .bytes (mkB [c]) u], []⟩) Q E s := by
  have hlen := splitL_length c l
  show wpAny _ A (Bytes.bindOptional _ _ _ [.bytes (mkB [c]) u] [] >>= fun r => _) Q E s
  refine wpAny_bind (wpAny_of_eq bind_sep ?_)
  refine wpAny_bind (wpAny_pure ?_)
  refine wpAny_bind (wpAny_of_eq (a := mkB l) rfl ?_)
  show wpAny _ A (Bytes.bytesLike _ (.bytes (mkB [c]) u) >>= fun set => _) Q E s
  rw [KBd.like_eq]
  refine wpAny_bind (wpAny_pure ?_)
  have hall : (Bytes.occurrences (mkB l) (mkB [c]) 0 (mkB l).size).take (if (-1 : Int) < 0 then (mkB l).size + 1 else (-1 : Int).toNat) = Bytes.occurrences (mkB l) (mkB [c]) 0 (mkB l).size := by
    rw [if_pos (by decide), bocc_all l c hs hc, List.take_of_length_le]
    refine Nat.le_trans (List.length_filter_le _ _) ?_
    rw [List.length_range, mkB_size]; omega
  have hbt := split_mkB l c hs hc
  show wpAny _ A (if ((Bytes.occurrences (mkB l) (mkB [c]) 0 (mkB l).size).take (if (-1 : Int) < 0 then (mkB l).size + 1 else (-1 : Int).toNat)).isEmpty = true then _ else _) Q E s
  rw [hall]
  by_cases he : (Bytes.occurrences (mkB l) (mkB [c]) 0 (mkB l).size).isEmpty = true
  · rw [if_pos he]
    rw [List.isEmpty_iff.mp he] at hbt
    have e1 : [(mkB l).extract 0 (mkB l).size] = (splitL c l).map mkB := hbt
    have e2 : splitL c l = [l] := by
      cases h2 : splitL c l with
      | nil => rw [h2] at e1; cases e1
      | cons p r =>
        rw [h2, List.map_cons, List.cons.injEq] at e1
        have h3 : r = [] := List.map_eq_nil_iff.mp e1.2.symm
        have h4 : mkB l = mkB p := by rw [← e1.1]; simp
        have h5 : ∀ q ∈ splitL c l, ∀ x ∈ q, x ∈ l := fun q hq x hx => (splitL_mem hq).2 x hx
        have h6 : Small p := fun x hx => hs x (h5 p (by rw [h2]; exact .head _) x hx)
        rw [h3, mkB_inj hs h6 h4]
    rw [e2] at h
    refine wpAny_bind (wpAny_rule ?_)
    refine wpAny_bind (wpAny_bind (wpAny_typeOf (typeIs_bytes _ _ _) ?_))
    refine wpAny_pure ?_
    refine wpAny_bind (newList_K F N (fun D' h' F' N' l1 => ?_) (by rw [sizeLine_eq, List.length_singleton]; decide))
    exact wpAny_pure (h D' [.bytes (mkB l) t] h' s.toks ⟨⟨_, rfl⟩, True.intro⟩ F' N' l1)
  · rw [if_neg he]
    show wpAny _ A ((Bytes.between (mkB l) (mkB [c]).size (Bytes.occurrences (mkB l) (mkB [c]) 0 (mkB l).size)).mapM mkBytes >>= fun r => _) Q E s
    rw [show (mkB [c]).size = 1 from rfl, hbt]
    refine wpAny_bind (mapM_mkB _ _ _ (fun p hp => ?_) fun us k hu => ?_)
    · rw [sizeLine_eq]; have h1 := wt_mem hp; rw [wt_split] at h1; omega
    · refine wpAny_bind (newList_K F N (fun D' h' F' N' l1 => ?_) (by rw [bys_len hu, sizeLine_eq]; omega))
      exact wpAny_pure (h D' us h' k hu F' N' l1)
theorem bsplit_B {y : Array UInt8} {Q : Value → Shared → Prop} (F : Fr h₀ L s.heap m) (N : News h₀ L s.heap news) (hs : Small l) (hy : y = mkB [c]) (hc : c < 256) (hz : l.length ≤ 4096)
    (h : ∀ D' us h' k, BysAre us (splitL c l) → Fr h₀ L h' m → News h₀ L h' ((D', listOf (List.toArray us) 0) :: news) → (∀ p ∈ news, p.1 < D') → Q (.ref D') { s with heap := h', toks := k }) :
    wpAny (model prog w) A (call (.builtin "bytes.split") [.bytes (mkB l) t, .bytes y u]) Q E s := by
  subst hy
  refine call_meets (S := fun _ R s' => s' = s ∧ ∀ D' us h' k, BysAre us (splitL c l) → Fr h₀ L h' m → News h₀ L h' ((D', listOf (List.toArray us) 0) :: news) → (∀ p ∈ news, p.1 < D') → R (.ok (.ret (.ref D'))) { s with heap := h', toks := k }) slot_split (typeIs_bytes _ _ _) entry_split (args_split _ _) ?_ ⟨rfl, h⟩
  rintro prog w A R s' ⟨rfl, h⟩
  exact gives_splitB F N hs hc hz h
theorem bufferF_eq {id : String} {f : Bool} : Bytes.buffer? id (.bytes b t) f = pure (some b) := by
  unfold Bytes.buffer?
  rw [KBy.special_eq KBy.look_buffer, KBy.own_buffer, KBy.own_release]
  kernel_rfl
theorem take_eq {id : String} : Bytes.takeBuffer? id (.bytes b t) 0 = pure (some (b, none)) := by
  unfold Bytes.takeBuffer?
  rw [KBy.special_eq KBy.look_buffer, KBy.own_buffer, bufferF_eq]
  kernel_rfl
theorem takeQ_eq {id : String} : Bytes.takeBufferQuiet? id (.bytes b t) 0 = pure (some (b, none)) := by
  unfold Bytes.takeBufferQuiet?
  rw [take_eq]
  rfl
theorem joinLetGo_none {M : Model} : ∀ (tk : List Value) (keep : List Value) (s : Shared) (Q : Unit → Shared → Prop), Q () s → wpAny M A (Bytes.joinLetGo (tk.map fun v => (v, none)) keep) Q E s
  | [], _, _, _, h => by unfold Bytes.joinLetGo; exact wpAny_pure h
  | v :: tk, keep, s, Q, h => by
    rw [List.map_cons]
    unfold Bytes.joinLetGo
    refine wpAny_bind (wpAny_letGo ?_)
    exact joinLetGo_none tk keep s Q h
theorem joined_go (c : Nat) : ∀ (ps : List (List Nat)) (acc : List Nat) (i : Nat), 0 < i → (((ps.map mkB).zipIdx i).foldl (fun out (x : Array UInt8 × Nat) => (if x.2 > 0 then out ++ mkB [c] else out) ++ x.1) (mkB acc)) = mkB (acc ++ (ps.map fun p => c :: p).flatten)
  | [], acc, i, _ => by simp
  | p :: ps, acc, i, h => by
    rw [List.map_cons, List.zipIdx_cons, List.foldl_cons, if_pos h]
    have e : mkB acc ++ mkB [c] ++ mkB p = mkB (acc ++ c :: p) := by simp [mkB]
    rw [e, joined_go c ps _ (i + 1) (by omega)]
    simp
theorem joinL_flat (c : Nat) : ∀ (p : List Nat) (ps : List (List Nat)), joinL [c] (p :: ps) = p ++ (ps.map fun p => c :: p).flatten
  | p, [] => by simp [joinL]
  | p, q :: ps => by
    show p ++ [c] ++ joinL [c] (q :: ps) = _
    rw [joinL_flat c q ps]; simp
theorem joined_mkB (c : Nat) : ∀ ps : List (List Nat), Bytes.joined (mkB [c]) (ps.map mkB) = mkB (joinL [c] ps)
  | [] => rfl
  | p :: ps => by
    unfold Bytes.joined
    rw [List.map_cons, List.zipIdx_cons, List.foldl_cons]
    have e : (if (0 : Nat) > 0 then (#[] : Array UInt8) ++ mkB [c] else #[]) ++ mkB p = mkB p := by simp
    show List.foldl _ ((if (0 : Nat) > 0 then (#[] : Array UInt8) ++ mkB [c] else #[]) ++ mkB p) _ = _
    rw [e, joinL_flat]
    exact joined_go c ps p (0 + 1) (by omega)
theorem sizes_go : ∀ (ps : List (List Nat)) (a : Nat), ((ps.map mkB).foldl (fun x y => x + y.size) a) = a + (ps.map (·.length)).sum
  | [], a => by simp
  | p :: ps, a => by rw [List.map_cons, List.foldl_cons, sizes_go ps, mkB_size, List.map_cons, List.sum_cons]; omega
theorem any_bys : ∀ {vs : List Value} {ps : List (List Nat)}, BysAre vs ps → ∀ i, ((vs.take i).map fun v => (v, (none : Option Value))).any (fun x => x.1.onHeap) = false
  | _, _, _, 0 => by simp
  | [], [], _, i + 1 => by simp
  | [], _ :: _, h, _ => h.elim
  | _ :: _, [], h, _ => h.elim
  | v :: vs, p :: ps, h, i + 1 => by
    obtain ⟨⟨t, rfl⟩, h2⟩ := h
    rw [List.take_succ_cons, List.map_cons, List.any_cons, any_bys h2 i]
    rfl
theorem sum_wt : ∀ ps : List (List Nat), (ps.map (·.length)).sum + ps.length = wt ps
  | [] => rfl
  | p :: ps => by
    have e : wt (p :: ps) = p.length + 1 + wt ps := by simp [wt]
    rw [e, ← sum_wt ps, List.map_cons, List.sum_cons, List.length_cons]; omega
theorem gives_joinB {Q : Fin → Shared → Prop} (N : News h₀ L s.heap news) (hm : (D, listOf vs.toArray n) ∈ news) (hi : BysAre vs ps) (hz : wt ps ≤ 16384) 
    (h : ∀ t' k, Q (.done (.ret (.bytes (mkB (joinL [c] ps)) t'))) { s with toks := k }) :
    wpAny (model prog w) A («bytes.join» ⟨[.bytes (mkB [c]) t, .ref D], []⟩) Q E s := by
  show wpAny _ A (Bytes.joinItems (.ref D) >>= fun seq => _) Q E s
  have hl := News.isList N hm
  unfold Bytes.joinItems
  refine wpAny_bind (wpAny_bind (wpAny_typeOf hl.typeIs ?_))
  refine wpAny_pure ?_
  refine wpAny_bind ?_
  obtain ⟨o, ho, hc, n', hd⟩ := id hl
  refine wpAny_seqItems ho hd ?_
  by_cases h1 : vs.length = 1
  · obtain ⟨v, rfl⟩ := List.length_eq_one_iff.mp h1
    have hp := bys_len hi
    obtain ⟨p, rfl⟩ := List.length_eq_one_iff.mp hp.symm
    obtain ⟨⟨t, rfl⟩, _⟩ := hi
    show wpAny _ A (typeOf (.bytes (mkB p) t) >>= _) Q E s
    refine wpAny_bind (wpAny_typeOf (typeIs_bytes _ _ _) ?_)
    exact wpAny_bind (wpAny_rule (wpAny_pure (h t s.toks)))
  · rcases vs with _ | ⟨v, _ | ⟨v2, r⟩⟩
    · show wpAny _ A (forIn [:(([] : List Value).toArray).size] _ _ >>= _) Q E s
      generalize ([] : List Value) = vs at *
      refine wpAny_bind ?_
      rw [Std.Legacy.Range.forIn_eq_forIn_range']
      refine wpAny_forIn_list _ (fun (rest : List Nat) (b : Array (Array UInt8) × List (Value × Option Value)) s' => s' = s ∧ ∃ i, rest = List.range' i (vs.length - i) ∧ i ≤ vs.length ∧ b.1 = ((ps.take i).map mkB).toArray ∧ b.2 = (vs.take i).map fun v => (v, none)) _ ?turn ?fin _ _ ?ini9
      case ini9 => exact ⟨rfl, 0, by simp [Std.Legacy.Range.size], Nat.zero_le _, rfl, rfl⟩
      case turn =>
        rintro i0 rest ⟨pt, tk⟩ s' ⟨rfl, i, hr, hi2, hpt, htk⟩
        dsimp only at hpt htk
        subst hpt htk
        have hlt : i < vs.length := by
          have := congrArg List.length hr
          simp at this
          omega
        have hr2 : List.range' i (vs.length - i) = i :: List.range' (i + 1) (vs.length - (i + 1)) := by
          rw [show vs.length - i = (vs.length - (i + 1)) + 1 from by omega, List.range'_succ]
        rw [hr2, List.cons.injEq] at hr
        obtain ⟨rfl, hr⟩ := hr
        obtain ⟨p, t2, hp, hv⟩ := bys_at hi (List.getElem?_eq_getElem hlt)
        have hx : vs.toArray.getD i0 Value.none = .bytes (mkB p) t2 := by rw [← hv]; simp [hlt]
        refine wpAny_bind (wpAny_seqItems ho hd ?_)
        dsimp only
        rw [hx, if_neg (by rw [any_bys hi]; decide)]
        refine wpAny_bind (wpAny_holding (wpAny_of_eq takeQ_eq ?_))
        dsimp only
        refine wpAny_bind (wpAny_seqItems ho hd ?_)
        dsimp only
        rw [if_neg (by simp)]
        refine wpAny_pure ?_
        refine ⟨rfl, i0 + 1, hr, hlt, ?_, ?_⟩
        · rw [List.take_add_one, hp]; simp
        · rw [List.take_add_one, List.getElem?_eq_getElem hlt, hv]; simp
      case fin =>
        rintro ⟨pt, tk⟩ s' ⟨rfl, i, hr, hi2, hpt, htk⟩
        dsimp only at *
        have hi3 : i = vs.length := by
          have := congrArg List.length hr
          simp at this
          omega
        subst hi3
        subst hpt htk
        rw [bys_len hi, List.take_length, ← bys_len hi, List.take_length]
        refine wpAny_bind (wpAny_of_eq (a := mkB [c]) rfl ?_)
        have hsw := sum_wt ps
        have hsz : Bytes.tooLong (Array.foldl (fun x1 x2 => x1 + x2.size) ((mkB [c]).size * ((List.map mkB ps).toArray.size - 1)) (List.map mkB ps).toArray) = false := by
          refine KBy.tooLong_not ?_
          rw [List.foldl_toArray, sizes_go, mkB_size, List.size_toArray, List.length_map, List.length_singleton]
          omega
        rw [if_neg (by rw [hsz]; decide), List.toList_toArray, joined_mkB]
        refine wpAny_bind (wpAny_mkBytes ?_ (by rw [mkB_size, sizeLine_eq]; have := wt_join c ps; omega))
        refine wpAny_bind (wpAny_holding (wpAny_point ?_))
        refine wpAny_bind (joinLetGo_none _ _ _ _ ?_)
        exact wpAny_pure (h _ _)
    · exact absurd rfl h1
    · show wpAny _ A (forIn [:(v :: v2 :: r).toArray.size] _ _ >>= _) Q E s
      generalize v :: v2 :: r = vs at *
      refine wpAny_bind ?_
      rw [Std.Legacy.Range.forIn_eq_forIn_range']
      refine wpAny_forIn_list _ (fun (rest : List Nat) (b : Array (Array UInt8) × List (Value × Option Value)) s' => s' = s ∧ ∃ i, rest = List.range' i (vs.length - i) ∧ i ≤ vs.length ∧ b.1 = ((ps.take i).map mkB).toArray ∧ b.2 = (vs.take i).map fun v => (v, none)) _ ?turn2 ?fin2 _ _ ?ini8
      case ini8 => exact ⟨rfl, 0, by simp [Std.Legacy.Range.size], Nat.zero_le _, rfl, rfl⟩
      case turn2 =>
        rintro i0 rest ⟨pt, tk⟩ s' ⟨rfl, i, hr, hi2, hpt, htk⟩
        dsimp only at hpt htk
        subst hpt htk
        have hlt : i < vs.length := by
          have := congrArg List.length hr
          simp at this
          omega
        have hr2 : List.range' i (vs.length - i) = i :: List.range' (i + 1) (vs.length - (i + 1)) := by
          rw [show vs.length - i = (vs.length - (i + 1)) + 1 from by omega, List.range'_succ]
        rw [hr2, List.cons.injEq] at hr
        obtain ⟨rfl, hr⟩ := hr
        obtain ⟨p, t2, hp, hv⟩ := bys_at hi (List.getElem?_eq_getElem hlt)
        have hx : vs.toArray.getD i0 Value.none = .bytes (mkB p) t2 := by rw [← hv]; simp [hlt]
        refine wpAny_bind (wpAny_seqItems ho hd ?_)
        dsimp only
        rw [hx, if_neg (by rw [any_bys hi]; decide)]
        refine wpAny_bind (wpAny_holding (wpAny_of_eq takeQ_eq ?_))
        dsimp only
        refine wpAny_bind (wpAny_seqItems ho hd ?_)
        dsimp only
        rw [if_neg (by simp)]
        refine wpAny_pure ?_
        refine ⟨rfl, i0 + 1, hr, hlt, ?_, ?_⟩
        · rw [List.take_add_one, hp]; simp
        · rw [List.take_add_one, List.getElem?_eq_getElem hlt, hv]; simp
      case fin2 =>
        rintro ⟨pt, tk⟩ s' ⟨rfl, i, hr, hi2, hpt, htk⟩
        dsimp only at *
        have hi3 : i = vs.length := by
          have := congrArg List.length hr
          simp at this
          omega
        subst hi3
        subst hpt htk
        rw [bys_len hi, List.take_length, ← bys_len hi, List.take_length]
        refine wpAny_bind (wpAny_of_eq (a := mkB [c]) rfl ?_)
        have hsw := sum_wt ps
        have hsz : Bytes.tooLong (Array.foldl (fun x1 x2 => x1 + x2.size) ((mkB [c]).size * ((List.map mkB ps).toArray.size - 1)) (List.map mkB ps).toArray) = false := by
          refine KBy.tooLong_not ?_
          rw [List.foldl_toArray, sizes_go, mkB_size, List.size_toArray, List.length_map, List.length_singleton]
          omega
        rw [if_neg (by rw [hsz]; decide), List.toList_toArray, joined_mkB]
        refine wpAny_bind (wpAny_mkBytes ?_ (by rw [mkB_size, sizeLine_eq]; have := wt_join c ps; omega))
        refine wpAny_bind (wpAny_holding (wpAny_point ?_))
        refine wpAny_bind (joinLetGo_none _ _ _ _ ?_)
        exact wpAny_pure (h _ _)
theorem join_B {y : Array UInt8} {Q : Value → Shared → Prop} (N : News h₀ L s.heap news) (hy : y = mkB [c]) (hm : (D, listOf vs.toArray n) ∈ news) (hi : BysAre vs ps) (hz : wt ps ≤ 16384)
    (h : ∀ t' k, Q (.bytes (mkB (joinL [c] ps)) t') { s with toks := k }) :
    wpAny (model prog w) A (call (.builtin "bytes.join") [.bytes y t, .ref D]) Q E s := by
  subst hy
  refine call_meets (S := fun _ R s' => s' = s ∧ ∀ t' k, R (.ok (.ret (.bytes (mkB (joinL [c] ps)) t'))) { s with toks := k }) slot_join (typeIs_bytes _ _ _) entry_join (args_join _ _) ?_ ⟨rfl, h⟩
  rintro prog w A R s' ⟨rfl, h⟩
  exact gives_joinB N hm hi hz h
theorem last_Y (hi : BysAre vs ps) (hp : ps ≠ []) : ∃ q t, ps.getLast? = some q ∧ vs.getLast? = some (.bytes (mkB q) t) := by
  have hl := bys_len hi
  have h0 := List.length_pos_iff.mpr hp
  have e : vs.getLast? = vs[vs.length - 1]? := List.getLast?_eq_getElem?
  have e1 : vs[vs.length - 1]? = some vs[vs.length - 1] := List.getElem?_eq_getElem (by omega)
  obtain ⟨p, t, h1, h2⟩ := bys_at hi e1
  refine ⟨p, t, ?_, ?_⟩
  · rw [List.getLast?_eq_getElem?, ← hl, h1]
  · rw [e, e1, h2]
theorem itemLast_Y {value slice : PySem.Expr} {Q : Value → Shared → Prop} {u : Tok} (N : News h₀ L s.heap news) (hm : (D, listOf vs.toArray n) ∈ news) (hi : BysAre vs ps) (hp : ps ≠ []) (hz : ps.length ≤ 16384) (h : ∀ q t, ps.getLast? = some q → Q (.bytes (mkB q) t) s)
    (hs : subscripted slice false (.ref D) (.int (-1) u) = operate [.ref D, .int (-1) u] (getItem (.ref D) (.int (-1) u)) := by with_unfolding_all rfl) (hg : ∀ r, letTemporaryGo value (.ref D) r = pure () := by intro _; with_unfolding_all rfl) :
    wpAny (model prog w) A (subscriptTail value slice (.ref D) (.int (-1) u)) Q E s := by
  obtain ⟨q, t, h1, h2⟩ := last_Y hi hp
  exact itemLast_V N hm h2 (by rw [bys_len hi]; exact hz) (h q t h1) hs hg
theorem pop_Y {news' : List (Addr × Obj)} {Q : Value → Shared → Prop} (F : Fr h₀ L s.heap m) (N : News h₀ L s.heap news) (hi : BysAre vs ps) (hp : ps ≠ []) (U : Upd D (listOf vs.toArray n) (listOf vs.dropLast.toArray (n + 1)) news news') (hz : ps.length ≤ 16384) (h : ∀ h' q t, Fr h₀ L h' m → News h₀ L h' news' → Q (.bytes (mkB q) t) { s with heap := h' }) :
    wpAny (model prog w) A (call (.builtin "list.pop") [.ref D]) Q E s := by
  obtain ⟨q, t, h1, h2⟩ := last_Y hi hp
  exact pop_V F N h2 U (by rw [bys_len hi]; exact hz) fun h' F' N' => h h' q t F' N'
end
theorem small_last {ps : List (List Nat)} {q : List Nat} (h : ∀ p ∈ ps, Small p) (e : ps.getLast? = some q) : Small q := h q (List.mem_of_getLast? e)
end Mine
namespace Mine
/-! one value for both kinds: false a text, true bytes -/
noncomputable def valK : Bool → List Nat → Tok → Value
  | false, l, t => .str (mkS l) t
  | true, l, t => .bytes (mkB l) t
noncomputable def limK : Bool → Nat
  | false => 1114111
  | true => 255
noncomputable def OkK (b : Bool) (l : List Nat) : Prop := ∀ c ∈ l, c ≤ limK b
theorem OkK.sub {b : Bool} {a c : List Nat} (h : OkK b a) (hc : ∀ x ∈ c, x ∈ a) : OkK b c := fun x hx => h x (hc x hx)
theorem OkK.cps {a : List Nat} (h : OkK false a) : Cps a := h
theorem OkK.small {a : List Nat} (h : OkK true a) : Small a := fun c hc => Nat.lt_succ_of_le (h c hc)
theorem OkK.sl {b : Bool} {a : List Nat} (h : OkK b a) (lo hi : Option Int) : OkK b (pySl a lo hi) := h.sub fun _ => pySl_mem
theorem OkK.head {b : Bool} {l : List Nat} (h : OkK b l) : OkK b (headL l) := h.sub fun _ => headL_mem
theorem OkK.tk {b : Bool} {a : List Nat} (h : OkK b a) (k : Nat) : OkK b (a.take k) := h.sub fun _ hc => List.mem_of_mem_take hc
theorem OkK.dr {b : Bool} {a : List Nat} (h : OkK b a) (k : Nat) : OkK b (a.drop k) := h.sub fun _ hc => List.mem_of_mem_drop hc
section
variable {prog : Program} {w : World} {A : Around} {E : Value → Shared → Prop} {s : Shared} {h₀ : Heap} {L D D2 : Addr} {news : List (Addr × Obj)} {k : Bool} {a b c d : List Nat} {t1 t2 t3 t4 : Tok} {Q : Value → Shared → Prop}
theorem pair_eqK (N : News h₀ L s.heap news) (hm : (D, tupO [valK k a t1, valK k b t2]) ∈ news) (hm2 : (D2, tupO [valK k c t3, valK k d t4]) ∈ news) (hu : A.units < cLine) (h1 : OkK k a) (h2 : OkK k b) (h3 : OkK k c) (h4 : OkK k d) (h : Q (.bool (decide (a = c ∧ b = d))) s) :
    wpAny (model prog w) A (compareOp .Eq (.ref D) (.ref D2)) Q E s := by
  cases k
  · exact pair_eqS N hm hm2 hu h
  · exact pair_eqB N hm hm2 hu h1.small h2.small h3.small h4.small h
theorem pair_neK (N : News h₀ L s.heap news) (hm : (D, tupO [valK k a t1, valK k b t2]) ∈ news) (hm2 : (D2, tupO [valK k c t3, valK k d t4]) ∈ news) (hu : A.units < cLine) (h1 : OkK k a) (h2 : OkK k b) (h3 : OkK k c) (h4 : OkK k d) (h : Q (.bool (decide (¬ (a = c ∧ b = d)))) s) :
    wpAny (model prog w) A (compareOp .NotEq (.ref D) (.ref D2)) Q E s := by
  cases k
  · exact pair_neS N hm hm2 hu h
  · exact pair_neB N hm hm2 hu h1.small h2.small h3.small h4.small h
theorem slice_K2 {l : List Nat} {t : Tok} {fm : PySem.Str → Option Value} {vl vu : Value} {lo hi : Option Int} {value slice : PySem.Expr} (hF : Fr h₀ L s.heap fm) (hN : News h₀ L s.heap news) (hl : IsPart vl lo) (hu : IsPart vu hi) (hz : l.length ≤ 4096)
    (h : ∀ h' t' n, Fr h₀ L h' fm → News h₀ L h' news → (pySl l lo hi).length ≤ l.length → Q (valK k (pySl l lo hi) t') { s with heap := h', toks := n })
    (hs : subscripted slice false (valK k l t) (.ref s.heap.objs.size) = operate [.ref s.heap.objs.size, valK k l t] (getItem (valK k l t) (.ref s.heap.objs.size)))
    (ht : ∀ r, letTemporaryGo value (valK k l t) r = pure ()) :
    wpAny (model prog w) A (subscriptTail value slice (valK k l t) (.ref s.heap.objs.size)) Q E { s with heap := s.heap.push { cls := .type "slice", data := .fields #[vl, vu, .none] } } := by
  cases k
  · exact slice_S hF hN hl hu hz h hs ht
  · exact slice_B hF hN hl hu hz h hs ht
end
end Mine
namespace Mine
/-! what 03 and 05 build -/
end Mine
namespace Mine
end Mine
namespace Mine
section
variable {prog : Program} {w : World} {A : Around} {E : Value → Shared → Prop} {s : Shared} {env : Env} {h₀ : Heap} {x : Str} {body : List Stmt} {Q : Flow → Shared → Prop}

end
end Mine
namespace Mine
end Mine
namespace Mine
/-! the plain law of 01 -/
theorem cutL_append {a b : List Nat} {c : Nat} (h : c ∉ b) : cutL c (a ++ b) = cutL c a := by
  symm
  apply cutL_unique
  · intro h0
    rw [List.getElem?_append_left (by have := cutL_le c a; omega)]
    exact cutL_pos c a h0
  · intro i hi
    rcases Nat.lt_or_ge i a.length with h1 | h1
    · rw [List.getElem?_append_left h1]; exact cutL_behind c a i hi
    · rw [List.getElem?_append_right h1]
      exact fun e => h (List.mem_of_getElem? e)
theorem filter_any (l : List Nat) : l.filter (· != 46) ≠ [] ↔ l.any (fun c => c != 46) = true := by
  rw [ne_eq, List.filter_eq_nil_iff, List.any_eq_true]
  constructor
  · intro h
    by_cases hx : ∃ x ∈ l, (x != 46) = true
    · exact hx
    · exact absurd (fun a ha hb => hx ⟨a, ha, hb⟩) h
  · rintro ⟨x, hx, h1⟩ h2
    exact h2 x hx h1
theorem extK_le (l : List Nat) : extK l ≤ l.length := by
  unfold extK
  have := cutL_le 46 l
  split <;> omega
end Mine
namespace Mine
/-! the plain law of 03 -/
end Mine
namespace Mine
/-! what 03 calls besides -/
section
variable {prog : Program} {w : World} {A : Around} {E : Value → Shared → Prop} {s : Shared} {l m : List Nat} {t u : Tok} {c : Nat} {Q : Value → Shared → Prop}
end
section
open Builtin
variable {b y : Array UInt8} {t u : Tok}
end
section
variable {prog : Program} {w : World} {A : Around} {E : Value → Shared → Prop} {s : Shared} {l m : List Nat} {t u : Tok} {c : Nat} {Q : Value → Shared → Prop}
theorem iadd_S {l l2 : List Nat} (hz : l.length + l2.length ≤ 16384) (h : ∀ t' k, Q (.str (mkS (l ++ l2)) t') { s with toks := k }) : wpAny (model prog w) A (inplaceOp .Add (.str (mkS l) t) (.str (mkS l2) u)) Q E s :=
  SB.iadd (fun t' k => by rw [mkS_app]; exact h t' k) (by rw [mkS_length, mkS_length, sizeLine_eq]; omega)
theorem mkB_app (a b : List Nat) : mkB a ++ mkB b = mkB (a ++ b) := by simp [mkB]
theorem add_B {l l2 : List Nat} {x y : Array UInt8} (hx : x = mkB l) (hy : y = mkB l2) (hz : l.length ≤ 16384) (hz2 : l2.length ≤ 16384) (h : ∀ t' k, Q (.bytes (mkB (l ++ l2)) t') { s with toks := k }) : wpAny (model prog w) A (binaryOp .Add (.bytes x t) (.bytes y u)) Q E s := by
  subst hx; subst hy
  exact KBy.add_bytes (by rw [mkB_size, mkB_size]; omega) fun t' k => by rw [mkB_app]; exact h t' k
end
section
variable {prog : Program} {w : World} {A : Around} {E : Value → Shared → Prop} {s : Shared} {h₀ : Heap} {L D D2 : Addr} {m : PySem.Str → Option Value} {news : List (Addr × Obj)} {k : Bool} {a b c a2 b2 c2 : List Nat} {t1 t2 t3 t4 t5 t6 : Tok} {Q : Value → Shared → Prop} {vs : List Value} {n : Nat} {l : List Nat} {value slice : PySem.Expr}
end
end Mine
namespace Mine
/-! a comprehension over range(n) -/
section
variable {prog : Program} {w : World} {A : Around} {E : Value → Shared → Prop} {s : Shared} {h₀ : Heap} {L : Addr} {m : Str → Option Value} {env : Env}
end
end Mine
namespace Mine
/-! the plain law of 04 -/
noncomputable def leadL (l : List Nat) : List Nat := l.takeWhile (· == 47)
/-- the cut: ahead of the last slash and behind it -/
theorem cut_split (l : List Nat) (h : 0 < cutL 47 l) : ∃ P, l = P ++ 47 :: tlL l ∧ l.take (cutL 47 l) = P ++ [47] := by
  refine ⟨l.take (cutL 47 l - 1), ?_, ?_⟩
  · have hp := cutL_pos 47 l h
    have hl := (List.getElem?_eq_some_iff.mp hp)
    have e1 := List.drop_eq_getElem_cons hl.1
    rw [hl.2, show cutL 47 l - 1 + 1 = cutL 47 l from by omega] at e1
    unfold tlL
    rw [← e1, List.take_append_drop]
  · have hp := cutL_pos 47 l h
    have e := List.take_add_one (l := l) (i := cutL 47 l - 1)
    rw [show cutL 47 l - 1 + 1 = cutL 47 l from by omega, hp] at e
    exact e
theorem tl_slash (l : List Nat) : 47 ∉ tlL l := by
  intro h
  obtain ⟨i, hi⟩ := List.mem_iff_getElem?.mp h
  unfold tlL at hi
  rw [List.getElem?_drop] at hi
  exact cutL_behind 47 l _ (Nat.le_add_right _ _) hi
theorem head_tail (l : List Nat) : l = l.take (cutL 47 l) ++ tlL l := (List.take_append_drop _ _).symm
end Mine
namespace Mine
end Mine
namespace Mine
/-! the plain law of 06 -/
noncomputable def bstep (st : Nat × List (List Nat)) (p : List Nat) : Nat × List (List Nat) :=
  if p = [46, 46] then (st.1 + 1, st.2) else if p ∉ [[], [46]] then (if 0 < st.1 then (st.1 - 1, st.2) else (st.1, p :: st.2)) else st
noncomputable def back (ps : List (List Nat)) : Nat × List (List Nat) := ps.reverse.foldl bstep (0, [])
theorem back_nil : back [] = (0, []) := rfl
theorem back_cons (p : List Nat) (ps : List (List Nat)) : back (p :: ps) = bstep (back ps) p := by
  unfold back; rw [List.reverse_cons, List.foldl_append]; rfl
/-- what the forward way makes of a stack: k debts, names ns, by what lies behind -/
theorem forward {root : List Nat} : ∀ (ps : List (List Nat)) (k : Nat) (ns : List (List Nat)), (∀ q ∈ ns, q ≠ [46, 46]) → (root ≠ [] → k = 0) →
    ps.foldl (nstep root) (List.replicate k [46, 46] ++ ns) = (if (back ps).1 ≤ ns.length then List.replicate k [46, 46] ++ ns.take (ns.length - (back ps).1) else if root = [] then List.replicate (k + (back ps).1 - ns.length) [46, 46] else []) ++ (back ps).2
  | [], k, ns, _, _ => by simp [back_nil]
  | p :: ps, k, ns, h, hr => by
    rw [List.foldl_cons, back_cons]
    unfold bstep
    by_cases hd : p = [46, 46]
    · rw [if_pos hd]
      rcases List.eq_nil_or_concat ns with e | ⟨ms, x, e⟩
      · subst e
        by_cases hroot : root = []
        · have e1 : nstep root (List.replicate k [46, 46] ++ []) p = List.replicate (k + 1) [46, 46] ++ [] := by
            unfold nstep
            rw [if_neg (by rw [hd]; simp)]
            rw [if_pos]
            · rw [hd, List.append_nil, List.append_nil, List.replicate_succ']
            · rw [List.append_nil]
              cases k with
              | zero => exact .inr (.inl ⟨hroot, rfl⟩)
              | succ k => exact .inr (.inr (by rw [List.replicate_succ', List.getLast?_append]; rfl))
          rw [e1, forward ps (k + 1) [] (by simp) (fun x => absurd hroot x)]
          simp only [List.length_nil, Nat.le_zero, Nat.add_eq_zero_iff, List.take_nil, hroot, if_true, Nat.sub_zero]
          by_cases hb : (back ps).1 = 0
          · rw [if_pos hb, if_neg (by omega), hb]; simp
          · rw [if_neg hb, if_neg (by omega)]
            congr 2
            omega
        · have hk := hr hroot
          subst hk
          have e1 : nstep root (List.replicate 0 [46, 46] ++ []) p = List.replicate 0 [46, 46] ++ [] := by
            unfold nstep
            rw [if_neg (by rw [hd]; simp), if_neg]
            · rfl
            · rintro (x | ⟨x, _⟩ | x)
              · exact x hd
              · exact hroot x
              · cases x
          rw [e1, forward ps 0 [] (by simp) (fun _ => rfl)]
          simp only [List.length_nil, Nat.le_zero, Nat.add_eq_zero_iff, List.take_nil, hroot, if_false]
          by_cases hb : (back ps).1 = 0
          · rw [if_pos hb, if_neg (by omega)]; rfl
          · rw [if_neg hb, if_neg (by omega)]
      · rw [List.concat_eq_append] at e
        subst e
        have hx := h x (by simp)
        have e1 : nstep root (List.replicate k [46, 46] ++ (ms ++ [x])) p = List.replicate k [46, 46] ++ ms := by
          unfold nstep
          rw [if_neg (by rw [hd]; simp), if_neg]
          · rw [← List.append_assoc, List.dropLast_concat]
          · rintro (y | ⟨_, y⟩ | y)
            · exact y hd
            · simp at y
            · rw [← List.append_assoc, List.getLast?_concat] at y
              exact hx (Option.some.inj y)
        rw [e1, forward ps k ms (fun q hq => h q (by simp [hq])) hr]
        simp only [List.length_append, List.length_singleton]
        by_cases hb : (back ps).1 ≤ ms.length
        · rw [if_pos hb, if_pos (by omega)]
          rw [show ms.length + 1 - ((back ps).1 + 1) = ms.length - (back ps).1 from by omega, List.take_append_of_le_length (by omega)]
        · rw [if_neg hb, if_neg (show ¬ ((back ps).1 + 1 ≤ ms.length + 1) from by omega), show k + (back ps).1 - ms.length = k + ((back ps).1 + 1) - (ms.length + 1) from by omega]
    · rw [if_neg hd]
      by_cases hs : p ∉ [[], [46]]
      · rw [if_pos hs]
        have hp : ¬ (p = [] ∨ p = [46]) := by simpa using hs
        have e1 : nstep root (List.replicate k [46, 46] ++ ns) p = List.replicate k [46, 46] ++ (ns ++ [p]) := by
          unfold nstep
          rw [if_neg hp, if_pos (.inl hd), List.append_assoc]
        rw [e1, forward ps k (ns ++ [p]) (fun q hq => by
          rcases List.mem_append.mp hq with hq | hq
          · exact h q hq
          · rw [List.mem_singleton.mp hq]; exact hd) hr]
        simp only [List.length_append, List.length_singleton]
        by_cases hb : 0 < (back ps).1
        · rw [if_pos hb]
          simp only
          by_cases hc : (back ps).1 ≤ ns.length + 1
          · rw [if_pos hc, if_pos (by omega)]
            rw [show ns.length + 1 - (back ps).1 = ns.length - ((back ps).1 - 1) from by omega, List.take_append_of_le_length (by omega)]
          · rw [if_neg hc, if_neg (show ¬ ((back ps).1 - 1 ≤ ns.length) from by omega), show k + (back ps).1 - (ns.length + 1) = k + ((back ps).1 - 1) - ns.length from by omega]
        · rw [if_neg hb]
          have h0 : (back ps).1 = 0 := by omega
          simp only [h0, Nat.zero_le, if_true, Nat.sub_zero, List.take_length]
          rw [show ns.length + 1 = (ns ++ [p]).length from by simp, List.take_length]
          simp
      · rw [if_neg hs]
        have hp : p = [] ∨ p = [46] := by
          have := Decidable.not_not.mp hs
          simpa using this
        have e1 : nstep root (List.replicate k [46, 46] ++ ns) p = List.replicate k [46, 46] ++ ns := by
          unfold nstep; rw [if_pos hp]
        rw [e1, forward ps k ns h hr]
theorem forward0 (root : List Nat) (ps : List (List Nat)) : ps.foldl (nstep root) [] = (if root = [] then List.replicate (back ps).1 [46, 46] else []) ++ (back ps).2 := by
  have h := forward (root := root) ps 0 [] (by simp) (fun _ => rfl)
  simp only [List.replicate_zero, List.nil_append, List.length_nil, Nat.le_zero, List.take_nil, Nat.sub_zero, Nat.zero_add] at h
  rw [h]
  by_cases h0 : (back ps).1 = 0
  · rw [if_pos h0, h0]; split <;> rfl
  · rw [if_neg h0]
/-- the root, by the run at the front -/
theorem lead_cons (x : Nat) (l : List Nat) : leadL (x :: l) = if x = 47 then x :: leadL l else [] := by
  unfold leadL; rw [List.takeWhile_cons]; by_cases h : x = 47 <;> simp [h]
theorem root_lead (l : List Nat) : rootL l = if (leadL l).length = 2 then [47, 47] else if 0 < (leadL l).length then [47] else [] := by
  unfold rootL
  match l with
  | [] => simp [leadL]
  | [a] => by_cases h : a = 47 <;> simp [h, leadL]
  | [a, b] => by_cases h : a = 47 <;> by_cases h2 : b = 47 <;> simp [h, h2, leadL]
  | a :: b :: c :: r =>
    rw [lead_cons, lead_cons, lead_cons]
    by_cases h : a = 47
    · by_cases h2 : b = 47
      · by_cases h3 : c = 47
        · simp [h, h2, h3]
        · simp [h, h2, h3]
      · simp [h, h2]
    · simp [h]
theorem split_root : ∀ (k : Nat) (r : List Nat), splitL 47 (List.replicate k 47 ++ r) = List.replicate k [] ++ splitL 47 r
  | 0, _ => rfl
  | k + 1, r => by
    rw [List.replicate_succ, List.cons_append, List.replicate_succ, List.cons_append, ← split_root k r]
    show (if (47 : Nat) = 47 then _ else _) = _
    rw [if_pos rfl]
theorem back_nils (ps : List (List Nat)) : ∀ k, back (List.replicate k [] ++ ps) = back ps
  | 0 => rfl
  | k + 1 => by
    rw [List.replicate_succ, List.cons_append, back_cons, back_nils ps k]
    unfold bstep
    rw [if_neg (by simp), if_neg (by simp)]
theorem root_drop (l : List Nat) : l = List.replicate (rootL l).length 47 ++ l.drop (rootL l).length := by
  unfold rootL
  split
  · rfl
  · rename_i h
    have e1 : l.take 1 = [47] := Decidable.not_not.mp h
    split
    · have := List.take_append_drop 1 l
      rw [e1] at this; exact this.symm
    · rename_i h2
      have e2 : (l.drop 1).take 1 = [47] := Decidable.not_not.mp fun x => h2 (.inl x)
      have e := List.take_add (l := l) (i := 1) (j := 1)
      rw [e1, e2] at e
      have := List.take_append_drop 2 l
      rw [show l.take 2 = [47, 47] from e] at this; exact this.symm
theorem ncomps_back (l : List Nat) : ncomps l = (if rootL l = [] then List.replicate (back (splitL 47 l)).1 [46, 46] else []) ++ (back (splitL 47 l)).2 := by
  unfold ncomps
  rw [forward0]
  have e : back (splitL 47 l) = back (splitL 47 (l.drop (rootL l).length)) := by
    conv => lhs; rw [root_drop l]
    rw [split_root, back_nils]
  rw [e]
theorem lead_len (l : List Nat) : (leadL l).length + (lstL 47 l).length = l.length := by
  have h : l.takeWhile (fun x => x == 47) ++ l.dropWhile (fun x => x == 47) = l := List.takeWhile_append_dropWhile
  have := congrArg List.length h
  rw [List.length_append] at this
  exact this
theorem root_of2 {l : List Nat} (h : (l.length : Int) - ((lstL 47 l).length : Int) = 2) : rootL l = [47, 47] := by
  have := lead_len l
  rw [root_lead, if_pos (by omega)]
theorem root_of1 {l : List Nat} (h : ¬ (l.length : Int) - ((lstL 47 l).length : Int) = 2) (h2 : 0 < (l.length : Int) - ((lstL 47 l).length : Int)) : rootL l = [47] := by
  have := lead_len l
  rw [root_lead, if_neg (by omega), if_pos (by omega)]
theorem root_of0 {l : List Nat} (h2 : ¬ 0 < (l.length : Int) - ((lstL 47 l).length : Int)) : rootL l = [] := by
  have := lead_len l
  rw [root_lead, if_neg (by omega), if_neg (by omega)]
theorem bstep_a {st : Nat × List (List Nat)} {p : List Nat} (h : p = [46, 46]) : bstep st p = (st.1 + 1, st.2) := by unfold bstep; rw [if_pos h]
theorem bstep_d {st : Nat × List (List Nat)} {p : List Nat} (h : ¬ p = [46, 46]) (h2 : ¬ p ∉ [[], [46]]) : bstep st p = st := by unfold bstep; rw [if_neg h, if_neg h2]
end Mine
namespace Mine
/-! the plain law of 05 -/
end Mine
namespace Mine
/-! lists of lists of ints -/
noncomputable def lstO (o : Obj) (vs : List Value) : Prop := o.cls = .type "list" ∧ ∃ n, o.data = .seq vs.toArray n
theorem lstO_of (vs : List Value) (n : Nat) : lstO (listOf vs.toArray n) vs := ⟨rfl, n, rfl⟩
theorem lst_is {h₀ h : Heap} {L a : Addr} {news : List (Addr × Obj)} {o : Obj} {vs : List Value} (N : News h₀ L h news) (hm : (a, o) ∈ news) (ho : lstO o vs) : h.IsList a vs.toArray := by
  obtain ⟨hc, n, hd⟩ := ho
  exact ⟨o, (N _ hm).1, hc, n, hd⟩
section
variable {prog : Program} {w : World} {A : Around} {E : Value → Shared → Prop} {s : Shared} {h₀ : Heap} {L a b : Addr} {m : Str → Option Value} {news : List (Addr × Obj)} {oa ob : Obj} {ws us : List Value} {qs rs : List (List Int)} {q r : List Int} {Q : Value → Shared → Prop}
theorem add_R (F : Fr h₀ L s.heap m) (N : News h₀ L s.heap news) (ha : (a, oa) ∈ news) (hb : (b, ob) ∈ news) (la : lstO oa ws) (lb : lstO ob us) (hz : ws.length + us.length ≤ 16384)
    (h : ∀ D' h', Fr h₀ L h' m → News h₀ L h' ((D', listOf (List.toArray (ws ++ us)) 0) :: news) → (∀ p ∈ news, p.1 < D') → Q (.ref D') { s with heap := h' }) : wpAny (model prog w) A (binaryOp .Add (.ref a) (.ref b)) Q E s :=
  add_lists F N (lst_is N ha la) (lst_is N hb lb) (fun h' F' N' => h _ h' F' N' fun p hp => Heap.lt_size (N p hp).1) (by rw [sizeLine_eq]; omega)
theorem pick_upto (vs : List Value) (i : Nat) : (slicePick vs.toArray none (some (i : Int)) none).toList = vs.take i := by
  have e : sliceBounds none (some (i : Int)) none vs.toArray.size = (((0 : Nat) : Int), ((min i vs.toArray.size : Nat) : Int), 1) := by
    simp only [sliceBounds, Option.getD_none, show (1 : Int) > 0 by decide, if_true, if_neg (show ¬ ((i : Int) < 0) by omega)]
    congr 1
    congr 1
    omega
  rw [kmk_pick_nat _ e]
  show (vs.drop 0).take (min i vs.toArray.size - 0) = _
  rw [List.drop_zero, Nat.sub_zero, List.size_toArray, kmk_take_min]
theorem pick_from (vs : List Value) (i : Nat) : (slicePick vs.toArray (some (i : Int)) none none).toList = vs.drop i := by
  have e : sliceBounds (some (i : Int)) none none vs.toArray.size = (((min i vs.toArray.size : Nat) : Int), ((vs.toArray.size : Nat) : Int), 1) := by
    simp only [sliceBounds, Option.getD_none, show (1 : Int) > 0 by decide, if_true, if_neg (show ¬ ((i : Int) < 0) by omega)]
    congr 1
    omega
  rw [kmk_pick_nat _ e]
  show (vs.drop (min i vs.toArray.size)).take (vs.toArray.size - min i vs.toArray.size) = _
  rw [List.size_toArray, kmk_drop_min, List.take_of_length_le (by rw [List.length_drop]; omega)]
section
variable {value slice : PySem.Expr} {x : Int} {u : Tok}
theorem upto_R {k : Nat} (F : Fr h₀ L s.heap m) (N : News h₀ L s.heap news) (ha : (a, oa) ∈ news) (la : lstO oa ws) (hx : x = (k : Int)) (hz : ws.length ≤ 16384)
    (h : ∀ D' h', Fr h₀ L h' m → News h₀ L h' ((D', listOf (List.toArray (ws.take k)) 0) :: news) → (∀ p ∈ news, p.1 < D') → Q (.ref D') { s with heap := h' })
    (hs : subscripted slice false (.ref a) (.ref s.heap.objs.size) = operate [.ref s.heap.objs.size, .ref a] (getItem (.ref a) (.ref s.heap.objs.size)) := by with_unfolding_all rfl) (ht : ∀ r, letTemporaryGo value (.ref a) r = pure () := by intro _; with_unfolding_all rfl) :
    wpAny (model prog w) A (subscriptTail value slice (.ref a) (.ref s.heap.objs.size)) Q E { s with heap := s.heap.push { cls := .type "slice", data := .fields #[.none, .int x u, .none] } } := by
  subst hx
  exact kmk_slice_lit (lo := none) (hi := some (k : Int)) F N (lst_is N ha la) .none (.int _ _) (pick_upto ws k) h hs ht (by rw [List.size_toArray, sizeLine_eq]; omega)
theorem from_R {k : Nat} (F : Fr h₀ L s.heap m) (N : News h₀ L s.heap news) (ha : (a, oa) ∈ news) (la : lstO oa ws) (hx : x = (k : Int)) (hz : ws.length ≤ 16384)
    (h : ∀ D' h', Fr h₀ L h' m → News h₀ L h' ((D', listOf (List.toArray (ws.drop k)) 0) :: news) → (∀ p ∈ news, p.1 < D') → Q (.ref D') { s with heap := h' })
    (hs : subscripted slice false (.ref a) (.ref s.heap.objs.size) = operate [.ref s.heap.objs.size, .ref a] (getItem (.ref a) (.ref s.heap.objs.size)) := by with_unfolding_all rfl) (ht : ∀ r, letTemporaryGo value (.ref a) r = pure () := by intro _; with_unfolding_all rfl) :
    wpAny (model prog w) A (subscriptTail value slice (.ref a) (.ref s.heap.objs.size)) Q E { s with heap := s.heap.push { cls := .type "slice", data := .fields #[.int x u, .none, .none] } } := by
  subst hx
  exact kmk_slice_lit (lo := some (k : Int)) (hi := none) F N (lst_is N ha la) (.int _ _) .none (pick_from ws k) h hs ht (by rw [List.size_toArray, sizeLine_eq]; omega)
end
end
/-- as Spec, without a word of order: what is made may lie anywhere -/
noncomputable def SpecW (prog p : Program) (K : Params → Frag) (f : Addr) (d u : Nat) (vs : List Value) (news : List (Addr × Obj)) (R : List (Addr × Obj) → Value → Prop) : Prop :=
  ∀ (w : World) (loose : List Str) (mean : ExcName → Option Value) (mg mb : Str → Option Value) (dp un : Nat) (gd : Option (List Code)) (cn : Str) (cs : Scope) (a : Addr) (ccd : Value) (cl : List (Str × Addr)) (outer : List Env) (A₀ : Around) (base h₀ : Heap) (L : Addr) (m : Str → Option Value) (s : Shared) (Q E : Value → Shared → Prop),
    Below A₀ base outer h₀ → Fr h₀ L s.heap m → (K w.params).In h₀ → News h₀ L s.heap news → Top p loose mean mg mb h₀ → cs.kind = .function →
    dp + d < recursionLimit → un + u < cLine →
    (∀ led v h' tk', R led v → Fr h₀ L h' m → News h₀ L h' (led ++ news) → Q v { s with heap := h', toks := tk' }) →
    wpAny (model prog w) (ktrTop dp un gd cn cs L a ccd cl outer) (call (.ref f) vs) Q E s
theorem SpecW.use2 {prog p : Program} {K : Params → Frag} {f : Addr} {d u : Nat} {vs : List Value} {news : List (Addr × Obj)} {R : List (Addr × Obj) → Value → Prop}
    {w : World} {loose : List Str} {mean : ExcName → Option Value} {mg mb : Str → Option Value} {dp un : Nat} {gd : Option (List Code)} {cn : Str} {cs : Scope} {a : Addr} {ccd : Value} {cl : List (Str × Addr)} {outer : List Env} {A₀ : Around} {base h₀ : Heap} {L : Addr} {m : Str → Option Value} {s : Shared} {Q E : Value → Shared → Prop}
    (B : Below A₀ base outer h₀) (F : Fr h₀ L s.heap m) (X : (K w.params).In h₀) (N : News h₀ L s.heap news) (T : Top p loose mean mg mb h₀) (hk : cs.kind = .function) (S : SpecW prog p K f d u vs news R)
    (hd : dp + d < recursionLimit) (hu : un + u < cLine)
    (ret : ∀ led v h' tk', R led v → Fr h₀ L h' m → News h₀ L h' (led ++ news) → Q v { s with heap := h', toks := tk' }) :
    wpAny (model prog w) (ktrTop dp un gd cn cs L a ccd cl outer) (call (.ref f) vs) Q E s :=
  S w loose mean mg mb dp un gd cn cs a ccd cl outer A₀ base h₀ L m s Q E B F X N T hk hd hu ret
end Mine
namespace Mine
section
variable {prog : Program} {w : World} {A : Around} {h₀ : Heap} {L : Addr} {m : Str → Option Value} {env : Env} {elt : PySem.Expr} {x : Str} {scope : Scope} {cl : List (Str × Addr)} {s : Shared} {Fin : List Value → List (Addr × Obj) → Prop} {news : List (Addr × Obj)}
end
end Mine
namespace Mine
/-! joins: what a statement leaves, said once for its ways -/
noncomputable def SetTo (h₀ : Heap) (L : Addr) (m : Str → Option Value) (x : Str) (news : List (Addr × Obj)) (s : Shared) (R : List (Addr × Obj) → Value → Prop) (fl : Flow) (s' : Shared) : Prop :=
  fl = .next ∧ ∃ v h' tk' led, s' = { s with heap := h', toks := tk' } ∧ Fr h₀ L h' (fun z => if z = x then some v else m z) ∧ News h₀ L h' (led ++ news) ∧ R led v
section
variable {M : Model} {A : Around} {E : Value → Shared → Prop} {s : Shared} {h₀ : Heap} {L : Addr} {m : Str → Option Value} {news : List (Addr × Obj)} {Q : Flow → Shared → Prop} {c : Sem Flow}
theorem join_set (x : Str) (R : List (Addr × Obj) → Value → Prop) (_F : Fr h₀ L s.heap m) (_N : News h₀ L s.heap news) (h1 : wpAny M A c (SetTo h₀ L m x news s R) E s)
    (h2 : ∀ led v h' tk', R led v → Fr h₀ L h' (fun z => if z = x then some v else m z) → News h₀ L h' (led ++ news) → Q .next { s with heap := h', toks := tk' }) : wpAny M A c Q E s := by
  refine wpAny_mono h1 (fun fl s' h => ?_) fun _ _ e => e
  obtain ⟨rfl, v, h', tk', led, rfl, F', N', r⟩ := h
  exact h2 led v h' tk' r F' N'
end
theorem set_same {h₀ h : Heap} {L : Addr} {m : Str → Option Value} {x : Str} {v : Value} (F : Fr h₀ L h m) (e : m x = some v) : Fr h₀ L h (fun z => if z = x then some v else m z) := by
  have : (fun z => if z = x then some v else m z) = m := by
    funext z
    by_cases hz : z = x
    · rw [if_pos hz, hz, e]
    · rw [if_neg hz]
  rw [this]; exact F
theorem join_setN {M : Model} {A : Around} {E : Value → Shared → Prop} {s : Shared} {h₀ : Heap} {L : Addr} {m : Str → Option Value} {news : List (Addr × Obj)} {Q : Flow → Shared → Prop} {c : Sem Flow} (x : Str) (R : List (Addr × Obj) → List (Addr × Obj) → Value → Prop) (F : Fr h₀ L s.heap m) (N : News h₀ L s.heap news) (h1 : wpAny M A c (SetTo h₀ L m x news s (R news)) E s)
    (h2 : ∀ led v h' tk', R news led v → Fr h₀ L h' (fun z => if z = x then some v else m z) → News h₀ L h' (led ++ news) → Q .next { s with heap := h', toks := tk' }) : wpAny M A c Q E s := join_set x (R news) F N h1 h2
section
variable {prog : Program} {w : World} {A : Around} {E : Value → Shared → Prop} {s : Shared} {env : Env} {h₀ : Heap} {x : Str} {body : List Stmt} {Q : Flow → Shared → Prop}
end
end Mine
namespace Mine
/-! a comprehension over a text's signs -/
noncomputable def headC (y : Str) : Nat := y.cps.toList.headD 0
theorem signs_mkS (l : List Nat) : signs (mkS l) = l.map fun c => mkS [c] := by
  unfold signs
  rw [mkS_cps]; rfl
theorem signs_fm (l : List Nat) (pz : Nat → Bool) (d : Nat → PyData) : ((signs (mkS l)).filter fun y => pz (headC y)).map (fun y => d (headC y)) = (l.filter pz).map d := by
  rw [signs_mkS, List.filter_map, List.map_map]
  rfl
section
variable {prog : Program} {w : World} {A : Around} {E : Value → Shared → Prop} {s : Shared} {h₀ : Heap} {L : Addr} {m : Str → Option Value} {env : Env}
noncomputable def CompAskS (prog : Program) (w : World) (A : Around) (h₀ : Heap) (L : Addr) (m : Str → Option Value) (env : Env) (elt : Expr) (x : Str) (tests : List Expr) (scope : Scope) (cl : List (Str × Addr)) (pz : Nat → Bool) (d : Nat → PyData)
    (cont : Addr → List Value → Heap → Nat → Prop → Prop) (xv : Value) (s₁ : Shared) : Prop :=
  ∃ (news : List (Addr × Obj)) (l : List Nat) (t : Tok), xv = .str (mkS l) t ∧ l.length ≤ 8192 ∧ Fr h₀ L s₁.heap m ∧ News h₀ L s₁.heap news ∧
    (∀ C c t' s₂ m₂ E', c ∈ l → Fr s₁.heap (compEnvC scope cl C env).locals s₂.heap m₂ → (∀ b o, s₁.heap.get? b = some o → s₂.heap.get? b = some o) → m₂ x = some (.str (mkS [c]) t') →
      match tests with
      | [] => pz c = true
      | [g] => wpAny (model prog w) A (isTrue g (compEnvC scope cl C env) (eval g (compEnvC scope cl C env))) (fun ok s₃ => ok = pz c ∧ Keeps s₂ s₃) E' s₂
      | _ => False) ∧
    (∀ C c t' s₂ m₂ E', c ∈ l → pz c = true → Fr s₁.heap (compEnvC scope cl C env).locals s₂.heap m₂ → (∀ b o, s₁.heap.get? b = some o → s₂.heap.get? b = some o) → m₂ x = some (.str (mkS [c]) t') → wpAny (model prog w) A (eval elt (compEnvC scope cl C env)) (fun y s₃ => Carried y (d c) ∧ Keeps s₂ s₃) E' s₂) ∧
    (∀ D ys h' tk n', News h₀ L h' ((D, listOf ys.toArray n') :: news) → (∀ p ∈ news, p.1 ≠ D) → cont D ys h' tk (CarriedAll ys ((l.filter pz).map d)))

theorem comp_signs {elt iter : Expr} {x : Str} {px : Pos} {tests : List Expr} {scope : Scope} {cl : List (Str × Addr)} {pos : Pos} {Q : Value → Shared → Prop} (pz : Nat → Bool) (d : Nat → PyData)
    (_F : Fr h₀ L s.heap m) (hh : A.handled = none) (hclos : closureFor scope env = pure cl) (hcell : ∀ y ∈ scope.names, y.2 ≠ .cell) (hkind : scope.kind = .function)
    (hnames : ∀ y ∈ scope.names, y.2 = .local → scope.names.lookup y.1 = some .local) (hx : scope.names.lookup x = some .local) (hs : ∀ x, foldedSetIterable iter env x = pure x)
    (h : wpAny (model prog w) A (eval iter env) (fun xv s₁ => Stop (CompAskS prog w A h₀ L m env elt x tests scope cl pz d (fun D _ h' tk C => Fr h₀ L h' m → C → Q (.ref D) { s₁ with heap := h', toks := tk }) xv s₁)) E s) :
    wpAny (model prog w) A (eval (.ListComp elt [⟨.Name x px, iter, tests, 0⟩] scope pos) env) Q E s := by
  refine wpAny_ListComp_free (ItemKind.str.lift fun y => pz (headC y)) (fun v y => ∃ a, ItemKind.str.is a v ∧ Carried y (d (headC a))) hclos hcell hkind hnames hx (wpAny_mono h (fun xv s₁ h₁ => ?_) fun _ _ e => e) hs
  obtain ⟨news, l, t, rfl, hz, F, N, ht, he, hc⟩ := h₁
  have up : ∀ (o : Obj) (h' : Heap), (∀ b o', b ∉ [s₁.heap.objs.size] → (s₁.heap.push o).get? b = some o' → h'.get? b = some o') → ∀ b o', s₁.heap.get? b = some o' → h'.get? b = some o' :=
    fun o h' hk b o' e => hk b o' (old_not_new e) (Heap.get?_push_of_some _ e)
  refine wpAny_pyIter_str fun o St W hst => ?_
  refine ⟨s₁.heap.objs.size, [s₁.heap.objs.size], [s₁.heap.objs.size], (mkS l).cps.size, SignAt (mkS l), St, rfl, W A hh, ?_, hst, ?_, ⟨?_, ?_⟩, ?_⟩
  · have := mkS_length l
    rw [sizeLine_eq]
    show (mkS l).length ≤ _
    omega
  · intro b hb
    show b < (s₁.heap.push o).objs.size
    rw [Heap.size_push, List.mem_singleton.mp hb]
    exact Nat.lt_succ_self _
  · intro C i v s₃ m₃ E' hC hP hn hm hk _
    obtain ⟨c, u, hcu, rfl⟩ := hP
    have hcl : c ∈ l := by
      have h2 : l[i]? = some c := by simpa [mkS] using hcu
      exact List.mem_of_getElem? h2
    have ha : ItemKind.str.is ⟨#[c]⟩ (.str ⟨#[c]⟩ u) := ⟨u, rfl⟩
    rw [ItemKind.lift_is ha]
    have k2 := up o s₃.heap hk
    have hC2 : s₁.heap.objs.size ≤ C := Nat.le_of_succ_le (by simpa [Heap.size_push] using hC)
    have h2 := ht C c u s₃ m₃ E' hcl (frInComp hn k2 hC2) k2 hm
    refine comp_tests (P := true) ?_
    match tests, h2 with
    | [], h2 => exact ⟨h2.symm, Keeps.rfl'⟩
    | [g], h2 => exact h2
  · intro C i v s₃ m₃ E' hC hP hp hn hm hk _
    obtain ⟨c, u, hcu, rfl⟩ := hP
    have hcl : c ∈ l := by
      have h2 : l[i]? = some c := by simpa [mkS] using hcu
      exact List.mem_of_getElem? h2
    have ha : ItemKind.str.is ⟨#[c]⟩ (.str ⟨#[c]⟩ u) := ⟨u, rfl⟩
    rw [ItemKind.lift_is ha] at hp
    have k2 := up o s₃.heap hk
    have hC2 : s₁.heap.objs.size ≤ C := Nat.le_of_succ_le (by simpa [Heap.size_push] using hC)
    exact wpAny_mono (he C c u s₃ m₃ E' hcl hp (frInComp hn k2 hC2) k2 hm) (fun y s₄ h₄ => ⟨⟨_, ha, h₄.1⟩, h₄.2⟩) fun _ _ e => e
  · intro D h' tk ys vs hnew hlD hplD hlen hP hF hk
    have k2 := up o h' hk
    have hD0 : h₀.get? D = none := by
      cases e : h₀.get? D with
      | none => rfl
      | some o' => rw [Heap.get?_push_of_some _ (F.keep _ _ e)] at hnew; cases hnew
    have hpl : NewPlain h' news D ys.toList.toArray := ⟨by rw [Array.toArray_toList]; exact hplD, fun p hp e => by rw [← e, Heap.get?_push_of_some _ (N p hp).1] at hnew; cases hnew⟩
    obtain ⟨n', N2⟩ := News.ofPlain (F.keeps k2) (N.grown k2) hD0 hpl
    have hca := (areOf_signs (y := mkS l) hlen hP).paired (fun y => pz (headC y)) (fun y => d (headC y)) _ hF
    rw [signs_fm] at hca
    exact hc D ys.toList h' tk n' N2 hpl.2 (F.keeps k2) hca
end
end Mine
namespace Mine
theorem normL_len (l : List Nat) : (normL l).length ≤ l.length + 4 := by
  have h1 := wt_join 47 (ncomps l)
  have h2 := ncomps_wt l
  have h3 := rootL_length l
  unfold normL
  split
  · simp
  · split
    · simp
    · rw [List.length_append]; omega
theorem normL_small {l : List Nat} (hs : Small l) : Small (normL l) := by
  unfold normL
  split
  · exact Small.one (by decide)
  · split
    · exact Small.one (by decide)
    · exact small_norm hs
theorem codes_IN (l : List Nat) : ((l.filter fun _ => true).map fun c : Nat => (c : Int)) = IN l := by
  rw [List.filter_eq_self.mpr (fun _ _ => rfl)]; rfl
end Mine
namespace Mine
/-! the plain law of 02 -/
/-- striking out: what stays -/
noncomputable def strk (ns : List (List Nat)) : List (List Nat) := List.replicate (back ns).1 [46, 46] ++ (back ns).2
noncomputable def keptZ (l : List Nat) : List (List Nat) := (splitL 47 l).filter fun p => decide (p ∉ [[], [46]])
noncomputable def calm (ns : List (List Nat)) (k : Nat) : Prop := ∀ i p, i < k → ns[i]? = some p → p ≠ [46, 46] → ns[i + 1]? ≠ some [46, 46]
theorem back_app (a : List (List Nat)) {b b' : List (List Nat)} (h : back b = back b') : back (a ++ b) = back (a ++ b') := by
  induction a with
  | nil => exact h
  | cons x a ih => rw [List.cons_append, List.cons_append, back_cons, back_cons, ih]
theorem back_pair {p : List Nat} (r : List (List Nat)) (h1 : p ≠ [46, 46]) (h2 : p ∉ [[], [46]]) : back (p :: [46, 46] :: r) = back r := by
  rw [back_cons, back_cons, bstep_a rfl]
  unfold bstep
  rw [if_neg h1, if_pos h2, if_pos (Nat.succ_pos _)]
  rfl
theorem back_strike {ns : List (List Nat)} {k : Nat} {p : List Nat} (h : ns[k]? = some p) (h1 : p ≠ [46, 46]) (h2 : p ∉ [[], [46]]) (h3 : ns[k + 1]? = some [46, 46]) : back (ns.take k ++ ns.drop (k + 2)) = back ns := by
  obtain ⟨hk, e1⟩ := List.getElem?_eq_some_iff.mp h
  obtain ⟨hk2, e2⟩ := List.getElem?_eq_some_iff.mp h3
  have e3 : ns.drop k = p :: [46, 46] :: ns.drop (k + 2) := by
    rw [List.drop_eq_getElem_cons hk, e1, List.drop_eq_getElem_cons hk2, e2]
  conv => rhs; rw [← List.take_append_drop k ns, e3]
  exact back_app _ (back_pair _ h1 h2).symm
theorem back_kept (ps : List (List Nat)) : back (ps.filter fun p => decide (p ∉ [[], [46]])) = back ps := by
  induction ps with
  | nil => rfl
  | cons p ps ih =>
    rw [List.filter_cons, back_cons]
    by_cases h : p ∉ [[], [46]]
    · rw [if_pos (decide_eq_true h), back_cons, ih]
    · rw [if_neg (by rw [decide_eq_false h]; decide), ih]
      have h2 : p ≠ [46, 46] := fun e => h (by rw [e]; decide)
      exact (bstep_d h2 h).symm
theorem calm_form : ∀ {ns : List (List Nat)}, calm ns ns.length → ∃ a nm, ns = List.replicate a [46, 46] ++ nm ∧ ∀ q ∈ nm, q ≠ [46, 46]
  | [], _ => ⟨0, [], rfl, fun _ h => nomatch h⟩
  | p :: r, h => by
    obtain ⟨a, nm, e, hn⟩ := calm_form (ns := r) fun i q hi hq h1 => by
      have := h (i + 1) q (Nat.succ_lt_succ hi) (by simpa using hq) h1
      simpa using this
    by_cases hp : p = [46, 46]
    · exact ⟨a + 1, nm, by rw [List.replicate_succ, List.cons_append, ← e, hp], hn⟩
    · cases a with
      | zero =>
        refine ⟨0, p :: nm, by rw [e]; rfl, fun q hq => ?_⟩
        rcases List.mem_cons.mp hq with rfl | hq
        · exact hp
        · exact hn q hq
      | succ a =>
        refine absurd ?_ (h 0 p (Nat.succ_pos _) rfl hp)
        rw [e]; rfl
theorem back_form : ∀ (a : Nat) (nm : List (List Nat)), (∀ q ∈ nm, q ≠ [46, 46]) → (∀ q ∈ nm, q ∉ [[], [46]]) → back (List.replicate a [46, 46] ++ nm) = (a, nm)
  | 0, [], _, _ => rfl
  | 0, q :: nm, h, h2 => by
    have ih := back_form 0 nm (fun x hx => h x (.tail _ hx)) fun x hx => h2 x (.tail _ hx)
    show back (q :: nm) = _
    rw [back_cons, show back nm = (0, nm) from ih]
    unfold bstep
    rw [if_neg (h q (.head _)), if_pos (h2 q (.head _)), if_neg (Nat.lt_irrefl _)]
  | a + 1, nm, h, h2 => by
    rw [List.replicate_succ, List.cons_append, back_cons, back_form a nm h h2, bstep_a rfl]
/-- what the loop holds -/
noncomputable def Struck (n0 ns : List (List Nat)) (k : Nat) : Prop := back ns = back n0 ∧ (∀ q ∈ ns, q ∉ [[], [46]]) ∧ ns.length ≤ n0.length ∧ (∀ q ∈ ns, q ∈ n0) ∧ calm ns k
theorem Struck.start {n0 : List (List Nat)} (h : ∀ q ∈ n0, q ∉ [[], [46]]) : Struck n0 n0 0 := ⟨rfl, h, Nat.le_refl _, fun _ h => h, fun _ _ h => absurd h (Nat.not_lt_zero _)⟩
theorem Struck.strike {n0 ns : List (List Nat)} {k : Nat} {p q : List Nat} (h : Struck n0 ns k) (e : ns[k]? = some p) (h1 : p ≠ [46, 46]) (e2 : ns[k + 1]? = some q) (h2 : q = [46, 46]) : Struck n0 (ns.take k ++ ns.drop (k + 2)) 0 := by
  subst h2
  obtain ⟨a, b, c, d, _⟩ := h
  have hm : ∀ q ∈ ns.take k ++ ns.drop (k + 2), q ∈ ns := fun q hq => (List.mem_append.mp hq).elim List.mem_of_mem_take List.mem_of_mem_drop
  refine ⟨(back_strike e h1 (b p (List.mem_of_getElem? e)) e2).trans a, fun q hq => b q (hm q hq), ?_, fun q hq => d q (hm q hq), fun _ _ h => absurd h (Nat.not_lt_zero _)⟩
  rw [List.length_append, List.length_take, List.length_drop]; omega
theorem Struck.next {n0 ns : List (List Nat)} {k : Nat} {p : List Nat} (h : Struck n0 ns k) (e : ns[k]? = some p) (h2 : p = [46, 46] ∨ ns[k + 1]? ≠ some [46, 46]) : Struck n0 ns (k + 1) := by
  obtain ⟨a, b, c, d, f⟩ := h
  refine ⟨a, b, c, d, fun i x hi hx h1 => ?_⟩
  rcases Nat.lt_or_ge i k with h | h
  · exact f i x h hx h1
  · have e3 : i = k := by omega
    subst e3
    rw [e] at hx
    cases hx
    exact h2.resolve_left h1
theorem not_dd {ns : List (List Nat)} {k : Nat} {q : List Nat} (e : ns[k]? = some q) (h : q ≠ [46, 46]) : ns[k]? ≠ some [46, 46] := by
  rw [e]; exact fun x => h (Option.some.inj x)
theorem Struck.done {n0 ns : List (List Nat)} {k : Nat} (h : Struck n0 ns k) (hk : ns.length ≤ k + 1) : ns = strk n0 := by
  obtain ⟨a, b, c, d, f⟩ := h
  obtain ⟨j, nm, e, hn⟩ := calm_form (ns := ns) fun i p hi hp h1 => by
    rcases Nat.lt_or_ge i k with h | h
    · exact f i p h hp h1
    · rw [List.getElem?_eq_none (by omega)]; simp
  have e2 := back_form j nm hn fun q hq => b q (by rw [e]; exact List.mem_append_right _ hq)
  rw [← e, a] at e2
  unfold strk
  rw [e2, e]
theorem strk_kept (l : List Nat) : strk (keptZ l) = List.replicate (back (splitL 47 l)).1 [46, 46] ++ (back (splitL 47 l)).2 := by
  unfold strk keptZ; rw [back_kept]
theorem back_nodd : ∀ (ps : List (List Nat)), ∀ q ∈ (back ps).2, q ≠ [46, 46]
  | [], q, hq => by rw [back_nil] at hq; exact nomatch hq
  | p :: ps, q, hq => by
    rw [back_cons] at hq
    have ih := back_nodd ps
    unfold bstep at hq
    split at hq
    · exact ih q hq
    · rename_i h1
      split at hq
      · split at hq
        · exact ih q hq
        · rcases List.mem_cons.mp hq with rfl | hq
          · exact h1
          · exact ih q hq
      · exact ih q hq
theorem names_0 {l : List Nat} (h : rootL l = []) : strk (keptZ l) = ncomps l := by rw [strk_kept, ncomps_back, if_pos h]
theorem names_1 {l : List Nat} (h : rootL l ≠ []) : (strk (keptZ l)).filter (fun p => decide (p ≠ [46, 46])) = ncomps l := by
  rw [strk_kept, ncomps_back, if_neg h, List.filter_append, List.filter_eq_nil_iff.mpr (fun q hq => by rw [List.eq_of_mem_replicate hq]; decide), List.filter_eq_self.mpr (fun q hq => decide_eq_true (back_nodd _ q hq))]
theorem norm_if (l : List Nat) : normL l = if rootL l ++ joinL [47] (ncomps l) = [] then [46] else rootL l ++ joinL [47] (ncomps l) := by
  unfold normL
  by_cases h : l = []
  · subst h; rfl
  · rw [if_neg h]
/-! the ending -/
noncomputable def extR (p : List Nat) : Nat → Nat
  | 0 => p.length
  | k + 1 => if p[k]? = some 46 ∧ (p.take k).filter (fun c => decide (c ≠ 46)) ≠ [] then k else extR p k
theorem filt46 (l : List Nat) : l.filter (fun c => decide (c ≠ 46)) ≠ [] ↔ l.any (fun c => c != 46) = true := by
  rw [← filter_any]
  have e : (fun c : Nat => decide (c ≠ 46)) = (fun c => c != 46) := by
    funext c
    by_cases h : c = 46 <;> simp [h]
  rw [e]
theorem extR_dots {p : List Nat} : ∀ k, ¬ (p.take k).filter (fun c => decide (c ≠ 46)) ≠ [] → extR p k = p.length
  | 0, _ => rfl
  | k + 1, h => by
    have h2 : ¬ (p.take k).filter (fun c => decide (c ≠ 46)) ≠ [] := fun h3 => h (by
      rw [filt46] at h3 ⊢
      obtain ⟨x, hx, h4⟩ := List.any_eq_true.mp h3
      exact List.any_eq_true.mpr ⟨x, List.mem_of_mem_take (show x ∈ (p.take (k + 1)).take k by rw [List.take_take, Nat.min_eq_left (Nat.le_succ k)]; exact hx), h4⟩)
    unfold extR
    rw [if_neg (fun x => h2 x.2), extR_dots k h2]
theorem extR_skip {p : List Nat} : ∀ k j, (∀ i, k ≤ i → p[i]? ≠ some 46) → extR p (k + j) = extR p k
  | _, 0, _ => rfl
  | k, j + 1, h => by
    show (if p[k + j]? = some 46 ∧ _ then _ else extR p (k + j)) = extR p k
    rw [if_neg (fun x => h _ (Nat.le_add_right _ _) x.1)]
    exact extR_skip k j h
theorem cutL_none {c : Nat} {p : List Nat} (h : c ∉ p) : cutL c p = 0 := (cutL_unique (fun h => absurd h (Nat.lt_irrefl _)) fun i _ e => h (List.mem_of_getElem? e)).symm
theorem extR_ext {p : List Nat} (h : 47 ∉ p) : extR p p.length = extK p := by
  have hc := cutL_le 46 p
  have e := extR_skip (p := p) (cutL 46 p) (p.length - cutL 46 p) (cutL_behind 46 p)
  rw [show cutL 46 p + (p.length - cutL 46 p) = p.length from by omega] at e
  rw [e]
  unfold extK
  rw [cutL_none h, List.drop_zero]
  cases hk : cutL 46 p with
  | zero => rfl
  | succ k =>
    have hp := cutL_pos 46 p (by omega)
    rw [hk, Nat.add_sub_cancel] at hp
    rw [Nat.add_sub_cancel]
    unfold extR
    by_cases h2 : (p.take k).filter (fun c => decide (c ≠ 46)) ≠ []
    · rw [if_pos ⟨hp, h2⟩, if_pos ((filt46 _).mp h2)]
    · rw [if_neg (fun x => h2 x.2), if_neg (fun x => h2 ((filt46 _).mpr x)), extR_dots k h2]
/-- a path: what ends in a slash or is nothing, and a name -/
noncomputable def EndS (a : List Nat) : Prop := a = [] ∨ ∃ P, a = P ++ [47]
theorem cut_pre {a p : List Nat} (ha : EndS a) (hp : 47 ∉ p) : cutL 47 (a ++ p) = a.length := by
  rw [cutL_append hp]
  rcases ha with rfl | ⟨P, rfl⟩
  · rfl
  · rw [cutL_snoc, if_pos rfl]; simp
theorem ext_pre {a p : List Nat} (ha : EndS a) (hp : 47 ∉ p) : extK (a ++ p) = a.length + extK p := by
  unfold extK
  rw [cut_pre ha hp, cutL_none hp, List.drop_zero]
  by_cases hm : 46 ∈ p
  · have h0 : 0 < cutL 46 p := by
      rcases Nat.eq_zero_or_pos (cutL 46 p) with h | h
      · obtain ⟨i, hi⟩ := List.mem_iff_getElem?.mp hm
        exact absurd hi (cutL_behind 46 p i (by omega))
      · exact h
    have e : cutL 46 (a ++ p) = a.length + cutL 46 p := by
      symm
      apply cutL_unique
      · intro _
        rw [List.getElem?_append_right (by omega), show a.length + cutL 46 p - 1 - a.length = cutL 46 p - 1 from by omega]
        exact cutL_pos 46 p h0
      · intro i hi
        rw [List.getElem?_append_right (by omega)]
        exact cutL_behind 46 p _ (by omega)
    rw [e, show a.length + cutL 46 p - 1 = a.length + (cutL 46 p - 1) from by omega, List.take_append, List.take_of_length_le (Nat.le_add_right _ _), Nat.add_sub_cancel_left, List.drop_append_of_le_length (Nat.le_refl _), List.drop_length, List.nil_append, List.length_append]
    split <;> rfl
  · have h1 := cutL_le 46 a
    rw [cutL_append hm, cutL_none hm, List.drop_of_length_le (by rw [List.length_take]; omega), Nat.zero_sub, List.take_zero, List.length_append]
    rfl
theorem ext_take {q : List Nat} (h : 47 ∉ q) (h0 : q ∉ [[], [46]]) (h1 : q ≠ [46, 46]) : q.take (extK q) ∉ [[], [46]] ∧ q.take (extK q) ≠ [46, 46] ∧ 47 ∉ q.take (extK q) := by
  suffices k : q.take (extK q) = q ∨ ∃ x ∈ q.take (extK q), x ≠ 46 by
    refine ⟨fun e => ?_, fun e => ?_, fun hm => h (List.mem_of_mem_take hm)⟩
    · rcases k with k | ⟨x, hx, h2⟩
      · rw [k] at e; exact h0 e
      · rcases List.mem_cons.mp e with e | e
        · rw [e] at hx; exact nomatch hx
        · rw [List.mem_singleton.mp e] at hx; exact h2 (List.mem_singleton.mp hx)
    · rcases k with k | ⟨x, hx, h2⟩
      · rw [k] at e; exact h1 e
      · rw [e] at hx
        rcases List.mem_cons.mp hx with hx | hx
        · exact h2 hx
        · exact h2 (List.mem_singleton.mp hx)
  unfold extK
  rw [cutL_none h, List.drop_zero]
  split
  · rename_i ha
    obtain ⟨x, hx, h2⟩ := List.any_eq_true.mp ha
    exact .inr ⟨x, hx, fun e => by rw [e] at h2; exact absurd h2 (by decide)⟩
  · exact .inl List.take_length
theorem ext_dots {q : List Nat} (h : q = [] ∨ q = [46] ∨ q = [46, 46]) : extK q = q.length := by
  rcases h with rfl | rfl | rfl <;> rfl
theorem lead_pre {a q : List Nat} (h : q.head? ≠ some 47) : leadL (a ++ q) = leadL a := by
  unfold leadL
  induction a with
  | nil =>
    cases q with
    | nil => rfl
    | cons y q =>
      have h2 : y ≠ 47 := fun e => h (by rw [e]; rfl)
      simp [h2]
  | cons x a ih =>
    rw [List.cons_append, List.takeWhile_cons, List.takeWhile_cons, ih]
theorem root_pre {a q r : List Nat} (h : q.head? ≠ some 47) (h2 : r.head? ≠ some 47) : rootL (a ++ q) = rootL (a ++ r) := by
  rw [root_lead, root_lead, lead_pre h, lead_pre h2]
theorem head_no {q : List Nat} (h : 47 ∉ q) : q.head? ≠ some 47 := fun e => h (List.mem_of_head? e)
theorem split_pre {a : List Nat} (ha : EndS a) : ∃ A, ∀ q, 47 ∉ q → splitL 47 (a ++ q) = A ++ [q] := by
  rcases ha with rfl | ⟨P, rfl⟩
  · exact ⟨[], fun q h => splitL_none h⟩
  · refine ⟨splitL 47 P, fun q h => ?_⟩
    rw [List.append_assoc, List.singleton_append, splitL_app, splitL_none h]
theorem back_snoc {q : List Nat} (h : q ∉ [[], [46]]) (h1 : q ≠ [46, 46]) : ∀ A : List (List Nat), back (A ++ [q]) = ((back A).1, (back A).2 ++ [q])
  | [] => by
    show back [q] = _
    rw [back_cons, back_nil]
    unfold bstep
    rw [if_neg h1, if_pos h, if_neg (Nat.lt_irrefl _)]
    rfl
  | p :: A => by
    rw [List.cons_append, back_cons, back_cons, back_snoc h h1 A]
    unfold bstep
    split
    · rfl
    · split
      · split <;> rfl
      · rfl
theorem comps_pre {a : List Nat} (ha : EndS a) {q0 : List Nat} (h00 : 47 ∉ q0) : ∃ X, ∀ q, 47 ∉ q → q ∉ [[], [46]] → q ≠ [46, 46] → ncomps (a ++ q) = X ++ [q] ∧ rootL (a ++ q) = rootL (a ++ q0) := by
  obtain ⟨A, hA⟩ := split_pre ha
  refine ⟨(if rootL (a ++ q0) = [] then List.replicate (back A).1 [46, 46] else []) ++ (back A).2, fun q h h0 h1 => ?_⟩
  have hr := root_pre (a := a) (head_no h) (head_no h00)
  refine ⟨?_, hr⟩
  rw [ncomps_back, hr, hA q h, back_snoc h0 h1, List.append_assoc]
theorem join_snoc (X : List (List Nat)) : ∃ P, EndS P ∧ ∀ q, joinL [47] (X ++ [q]) = P ++ q := by
  induction X with
  | nil => exact ⟨[], .inl rfl, fun q => rfl⟩
  | cons x X ih =>
    obtain ⟨P, hP, h⟩ := ih
    refine ⟨x ++ [47] ++ P, .inr ?_, fun q => ?_⟩
    · rcases hP with rfl | ⟨R, rfl⟩
      · exact ⟨x, by simp⟩
      · exact ⟨x ++ [47] ++ R, by simp⟩
    · cases X with
      | nil =>
        have h2 := h q
        show x ++ [47] ++ joinL [47] [q] = _
        rw [show joinL [47] [q] = P ++ q from h2, ← List.append_assoc]
      | cons y X =>
        show x ++ [47] ++ joinL [47] (y :: (X ++ [q])) = _
        rw [show joinL [47] (y :: (X ++ [q])) = P ++ q from h q, ← List.append_assoc]
theorem root_end (l : List Nat) : EndS (rootL l) := by
  unfold rootL
  split
  · exact .inl rfl
  · split
    · exact .inr ⟨[], rfl⟩
    · exact .inr ⟨[47], rfl⟩
theorem EndS.app {a b : List Nat} (ha : EndS a) (hb : EndS b) : EndS (a ++ b) := by
  rcases hb with rfl | ⟨P, rfl⟩
  · rw [List.append_nil]; exact ha
  · exact .inr ⟨a ++ P, by rw [List.append_assoc]⟩
/-- the straight path's last name -/
noncomputable def lastL (l : List Nat) : List Nat := (ncomps l).getLastD []
theorem norm_last {l : List Nat} {X : List (List Nat)} {q : List Nat} (e : ncomps l = X ++ [q]) (hq : q ≠ []) : ∃ P, EndS P ∧ normL l = rootL l ++ (P ++ q) ∧ ∀ q', joinL [47] (X ++ [q']) = P ++ q' := by
  obtain ⟨P, hP, h⟩ := join_snoc X
  refine ⟨P, hP, ?_, h⟩
  rw [norm_if, e, h, if_neg]
  intro e2
  have := List.append_eq_nil_iff.mp (List.append_eq_nil_iff.mp e2).2
  exact hq this.2
theorem comps_good (l : List Nat) : ∀ q ∈ ncomps l, q ≠ [] ∧ 47 ∉ q := by
  unfold ncomps
  have h0 : ∀ (ps acc : List (List Nat)), (∀ q ∈ acc, q ≠ []) → ∀ q ∈ ps.foldl (nstep (rootL l)) acc, q ≠ [] := by
    intro ps
    induction ps with
    | nil => intro acc h; exact h
    | cons p ps ih =>
      intro acc h
      rw [List.foldl_cons]
      refine ih _ ?_
      unfold nstep
      split
      · exact h
      · rename_i h1
        split
        · intro q hq
          rcases List.mem_append.mp hq with hq | hq
          · exact h q hq
          · rw [List.mem_singleton.mp hq]; exact fun e => h1 (.inl e)
        · exact fun q hq => h q (List.dropLast_subset _ hq)
  exact fun q hq => ⟨h0 _ [] (fun _ h => nomatch h) q hq, fold_mem (P := fun p => 47 ∉ p) (by simp) (fun p hp => (splitL_mem hp).1) q hq⟩
/-- where the straight path is cut -/
theorem cut_straight (l : List Nat) : (normL l).length - (lastL l).length + extR (lastL l) (lastL l).length = extK (normL l) ∧ (lastL l).length ≤ (normL l).length := by
  rcases List.eq_nil_or_concat (ncomps l) with e | ⟨X, q, e⟩
  · have e2 : lastL l = [] := by unfold lastL; rw [e]; rfl
    rw [e2]
    refine ⟨?_, Nat.zero_le _⟩
    show (normL l).length - 0 + 0 = _
    rw [norm_if, e]
    unfold rootL
    split
    · rfl
    · split <;> rfl
  · rw [List.concat_eq_append] at e
    have hg := comps_good l q (by rw [e]; exact List.mem_append_right _ (.head _))
    have e2 : lastL l = q := by unfold lastL; rw [e]; simp
    obtain ⟨P, hP, hn, _⟩ := norm_last e hg.1
    rw [e2, hn, ← List.append_assoc, ext_pre ((root_end l).app hP) hg.2, extR_ext hg.2, List.length_append (bs := q)]
    omega
theorem pre_end (l : List Nat) : EndS (l.take (cutL 47 l)) := by
  rcases Nat.eq_zero_or_pos (cutL 47 l) with h | h
  · rw [h]; exact .inl rfl
  · obtain ⟨P, _, e⟩ := cut_split l h
    exact .inr ⟨P, e⟩
theorem split_last (l : List Nat) : (splitL 47 l).getLast? = some (tlL l) := by
  obtain ⟨A, hA⟩ := split_pre (pre_end l)
  have h := hA (tlL l) (tl_slash l)
  rw [← head_tail] at h
  rw [h, List.getLast?_concat]
/-- a last piece of dots: no ending -/
theorem law_dots {l : List Nat} (h : tlL l = [] ∨ tlL l = [46] ∨ tlL l = [46, 46]) : l.take (extK l) = l ∧ l.drop (extK l) = [] := by
  have e : extK l = l.length := by
    conv => lhs; rw [head_tail l]
    rw [ext_pre (pre_end l) (tl_slash l), ext_dots h, ← List.length_append, ← head_tail]
  rw [e]
  exact ⟨List.take_length, List.drop_length⟩
/-- a name at the end: its root and its ending -/
theorem law_name {l : List Nat} (h0 : tlL l ∉ [[], [46], [46, 46]]) : normL (l.take (extK l)) = (normL l).take (extK (normL l)) ∧ l.drop (extK l) = (normL l).drop (extK (normL l)) := by
  have hs := tl_slash l
  have hp := pre_end l
  have ht := head_tail l
  generalize tlL l = q at h0 hs ht
  generalize l.take (cutL 47 l) = a at hp ht
  subst ht
  have g0 : q ∉ [[], [46]] := fun h => h0 (by
    simp only [List.mem_cons, List.not_mem_nil, or_false] at h ⊢
    rcases h with h | h
    · exact .inl h
    · exact .inr (.inl h))
  have g1 : q ≠ [46, 46] := fun h => h0 (by rw [h]; simp)
  have gq : q ≠ [] := fun h => g0 (by rw [h]; simp)
  obtain ⟨k0, k1, k2⟩ := ext_take hs g0 g1
  obtain ⟨X, hX⟩ := comps_pre hp hs
  obtain ⟨e1, _⟩ := hX q hs g0 g1
  obtain ⟨e2, r2⟩ := hX _ k2 k0 k1
  obtain ⟨P, hP, hn, hj⟩ := norm_last e1 gq
  have hle := extK_le q
  have hx := ext_pre hp hs
  have hroot := root_end (a ++ q)
  rw [hx, List.take_append, List.take_of_length_le (Nat.le_add_right _ _), Nat.add_sub_cancel_left, List.drop_append, List.drop_of_length_le (Nat.le_add_right _ _), Nat.add_sub_cancel_left, List.nil_append]
  rw [hn, ← List.append_assoc, ext_pre (hroot.app hP) hs, List.take_append, List.take_of_length_le (Nat.le_add_right _ _), Nat.add_sub_cancel_left, List.drop_append, List.drop_of_length_le (Nat.le_add_right _ _), Nat.add_sub_cancel_left, List.nil_append]
  refine ⟨?_, rfl⟩
  rw [norm_if, e2, r2, hj, if_neg, ← List.append_assoc]
  intro e
  have := (List.append_eq_nil_iff.mp (List.append_eq_nil_iff.mp e).2).2
  exact k0 (by rw [this]; simp)
end Mine
namespace Mine
theorem lit_sdd : Str.ofString "/.." = mkS [47, 46, 46] := by decide +kernel
noncomputable def menu5 : List (List Nat) := [[97], [46], [47], [46, 46], [47, 46, 46]]
theorem strs_menu5 (a b c d e : Tok) : StrsAre [.str (Str.ofString "a") a, .str (Str.ofString ".") b, .str (Str.ofString "/") c, .str (Str.ofString "..") d, .str (Str.ofString "/..") e] (SL menu5) := by
  rw [lit_slash, lit_sdd, lit_dot, lit_a, lit_dd]
  exact .cons _ _ (.cons _ _ (.cons _ _ (.cons _ _ (.cons _ _ .nil))))
theorem menu5_small {i : Nat} {p : List Nat} (h : menu5[i]? = some p) : p.length ≤ 3 ∧ Small p := by
  have : ∀ q ∈ menu5, q.length ≤ 3 ∧ ∀ c ∈ q, c < 256 := by decide
  exact this p (List.mem_of_getElem? h)
theorem fmod5 {x : Int} (h : ¬ x.fmod 6 = 5) : x.fmod 6 < (menu5.length : Int) := by
  have h1 := Int.fmod_lt_of_pos x (show (0 : Int) < 6 by decide)
  show x.fmod 6 < 5
  omega
theorem small_chr (x : Int) : Small [(x.fmod 256).toNat] := fun c hc => by
  rw [List.mem_singleton.mp hc]
  have h1 := Int.fmod_lt_of_pos x (show (0 : Int) < 256 by decide)
  have h2 := Int.fmod_nonneg_of_pos x (show (0 : Int) < 256 by decide)
  omega
theorem chr_bd (x : Int) : 0 ≤ x.fmod 256 ∧ x.fmod 256 ≤ 1114111 := by
  have h1 := Int.fmod_lt_of_pos x (show (0 : Int) < 256 by decide)
  have h2 := Int.fmod_nonneg_of_pos x (show (0 : Int) < 256 by decide)
  omega
theorem strs_drop {vs : List Value} {ss : List Str} (h : StrsAre vs ss) : ∀ k, StrsAre (vs.drop k) (ss.drop k) := by
  induction h with
  | nil => intro k; rw [List.drop_nil, List.drop_nil]; exact .nil
  | cons y t r ih =>
    intro k
    cases k with
    | zero => exact .cons _ _ r
    | succ k => exact ih k
theorem strs_cut {vs : List Value} {ns : List (List Nat)} (h : StrsAre vs (SL ns)) (i j : Nat) : StrsAre (vs.take i ++ vs.drop j) (SL (ns.take i ++ ns.drop j)) := by
  rw [SL_app]
  have e1 : SL (ns.take i) = (SL ns).take i := by unfold SL; rw [List.map_take]
  have e2 : SL (ns.drop j) = (SL ns).drop j := by unfold SL; rw [List.map_drop]
  rw [e1, e2]
  exact (StrsAre.take' h i).append' (strs_drop h j)
theorem two_cast (k : Nat) : (k : Int) + 2 = ((k + 2 : Nat) : Int) := rfl
theorem len_T {prog : Program} {w : World} {A : Around} {E : Value → Shared → Prop} {s : Shared} {h₀ : Heap} {L D : Addr} {n : Nat} {vs : List Value} {ps : List (List Nat)} {news : List (Addr × Obj)} {Q : Value → Shared → Prop} (N : News h₀ L s.heap news) (hm : (D, listOf vs.toArray n) ∈ news) (hl : StrsAre vs (SL ps)) (hz : ps.length ≤ 16384)
    (h : ∀ t' k, Q (.int (ps.length : Int) t') { s with toks := k }) : wpAny (model prog w) A (call (.builtin "len") [.ref D]) Q E s :=
  kst_len N hm (strs_len hl) (by omega) (h _ _)
/-- what the striking loop turns -/
structure StSt where
  k : Nat
  tk : Tok
  q : Addr
  vs : List Value
  n : Nat
  ns : List (List Nat)
  sub : List (Addr × Obj)
noncomputable def StSt.ok (n0 : List (List Nat)) (news : List (Addr × Obj)) (c : StSt) : Prop := (c.q, listOf c.vs.toArray c.n) ∈ c.sub ++ news ∧ StrsAre c.vs (SL c.ns) ∧ Struck n0 c.ns c.k ∧ c.k ≤ c.ns.length
noncomputable def CompMark : Prop := True
theorem newList_KK {M : Model} {A : Around} {E : Value → Shared → Prop} {s : Shared} {h₀ : Heap} {L : Addr} {m : Str → Option Value} {news : List (Addr × Obj)} {vs : List Value} {Q : Value → Shared → Prop} (F : Fr h₀ L s.heap m) (N : News h₀ L s.heap news) (hz : vs.length ≤ 8)
    (h : ∀ D h', Fr h₀ L h' m → News h₀ L h' ((D, listOf vs.toArray 0) :: news) → (∀ p ∈ news, p.1 < D) → (∀ b o, s.heap.get? b = some o → h'.get? b = some o) → Q (.ref D) { s with heap := h' }) : wpAny M A (newList vs) Q E s :=
  newList_NK F N (fun h' F' N' k => h _ h' F' N' (fun p hp => Heap.lt_size (N p hp).1) k) (by rw [sizeLine_eq]; omega)
theorem ok_small {l : List Nat} (h : Small l) (k : Bool) : OkK k l := fun c hc => by
  have := h c hc
  cases k
  · show c ≤ 1114111; omega
  · show c ≤ 255; omega
theorem keptZ_good (l : List Nat) : ∀ q ∈ keptZ l, q ∉ [[], [46]] := fun q hq => of_decide_eq_true (List.mem_filter.mp hq).2
theorem keptZ_len (l : List Nat) : (keptZ l).length ≤ l.length + 1 := Nat.le_trans (List.length_filter_le _ _) (splitL_length 47 l)
theorem kept_SL (l : List Nat) : ((SL (splitL 47 l)).filter fun y => decide (y.cps.toList ∉ [[], [46]])) = SL (keptZ l) := SL_filter _ _ (fun x => by rw [mkS_cps]) _
theorem nodd_SL (ps : List (List Nat)) : ((SL ps).filter fun y => decide (y.cps.toList ≠ [46, 46])) = SL (ps.filter fun p => decide (p ≠ [46, 46])) := SL_filter _ _ (fun x => by rw [mkS_cps]) _
theorem carried_id {as : List Str} {ys : List Value} (h : CarriedAll ys (as.map fun a => PyData.str a)) : StrsAre ys as := by
  have h2 := carried_strs (f := fun a : Str => a) h
  rw [List.map_id'] at h2
  exact h2
theorem news_nil {h₀ h : Heap} {L : Addr} {m : Str → Option Value} (_F : Fr h₀ L h m) : News h₀ L h [] := fun _ h => nomatch h
end Mine
namespace Mine
theorem root_pos {l : List Nat} (h : 0 < (l.length : Int) - ((lstL 47 l).length : Int)) : rootL l ≠ [] := by
  by_cases h2 : (l.length : Int) - ((lstL 47 l).length : Int) = 2
  · rw [root_of2 h2]; simp
  · rw [root_of1 h2 h]; simp
theorem root_e0 {l : List Nat} (h : (l.length : Int) - ((lstL 47 l).length : Int) = 0) : rootL l = [] := root_of0 (by omega)
theorem root_e1 {l : List Nat} (h : (l.length : Int) - ((lstL 47 l).length : Int) ≠ 0) (h2 : ¬ (l.length : Int) - ((lstL 47 l).length : Int) = 2) : rootL l = [47] := root_of1 h2 (by
  have := lstL_length 47 l
  omega)
theorem str_eq {a b : List Nat} {t : Tok} (e : a = b) : Value.str (mkS a) t = Value.str (mkS b) t := by rw [e]
theorem norm_dot {l : List Nat} (h : rootL l ++ joinL [47] (ncomps l) = []) : normL l = [46] := by rw [norm_if, if_pos h]
theorem norm_no {l : List Nat} (h : ¬ rootL l ++ joinL [47] (ncomps l) = []) : rootL l ++ joinL [47] (ncomps l) = normL l := by rw [norm_if, if_neg h]
theorem last_some {l : List Nat} {q : List Nat} (h : (ncomps l).getLast? = some q) : q = lastL l := by
  unfold lastL
  rw [List.getLastD_eq_getLast?, h]; rfl
theorem last_none {l : List Nat} (h : ncomps l = []) : lastL l = [] := by unfold lastL; rw [h]; rfl
theorem last_len {l : List Nat} : (lastL l).length ≤ (normL l).length := (cut_straight l).2
theorem extR_yes {p : List Nat} {i c : Nat} (h1 : p[i]? = some c) (h2 : [c] = [46]) (h3 : (p.take i).filter (fun c => decide (c ≠ 46)) ≠ []) : extR p (i + 1) = i := by
  have e : c = 46 := by simpa using h2
  subst e
  show (if _ then _ else _) = _
  rw [if_pos ⟨h1, h3⟩]
theorem extR_no1 {p : List Nat} {i c : Nat} (h1 : p[i]? = some c) (h2 : ¬ [c] = [46]) : extR p (i + 1) = extR p i := by
  show (if _ then _ else _) = _
  rw [if_neg]
  rintro ⟨h3, _⟩
  rw [h1] at h3
  exact h2 (by rw [Option.some.inj h3])
theorem extR_no2 {p : List Nat} {i : Nat} (h3 : ¬ (p.take i).filter (fun c => decide (c ≠ 46)) ≠ []) : extR p (i + 1) = extR p i := by
  show (if _ then _ else _) = _
  rw [if_neg (fun x => h3 x.2)]
theorem sgn_SL (l : List Nat) : (l.map fun c => mkS [c]) = SL (l.map fun c => [c]) := by
  unfold SL; rw [List.map_map]; rfl
theorem sgn_ne {l : List Nat} (h : (l.map fun c => [c]) ≠ []) : l ≠ [] := fun e => h (by rw [e]; rfl)
theorem sgn_nn {l : List Nat} (h : ¬ (l.map fun c => [c]) ≠ []) : ¬ l ≠ [] := fun e => h fun e2 => e (List.map_eq_nil_iff.mp e2)
theorem dec46 (c : Nat) : decide ([c] ≠ [46]) = decide (c ≠ 46) := decide_eq_decide.mpr ⟨fun h e => h (by rw [e]), fun h e => h (by simpa using e)⟩
section
variable {prog : Program} {w : World} {A : Around} {E : Value → Shared → Prop} {s : Shared} {h₀ : Heap} {L D : Addr} {m : Str → Option Value} {news : List (Addr × Obj)} {vs : List Value} {n : Nat} {ps : List (List Nat)} {t u : Tok} {k : Bool} {a b : List Nat} {Q : Value → Shared → Prop}
theorem in_T {q : List Nat} (N : News h₀ L s.heap news) (hm : (D, listOf vs.toArray n) ∈ news) (hi : StrsAre vs (SL ps)) (h : Q (.bool (decide (q ∈ ps))) s) : wpAny (model prog w) A (compareOp .In (.str (mkS q) t) (.ref D)) Q E s :=
  in_list_strs (News.isList N hm) hi (by
    have e : ((SL ps).any (· == mkS q)) = decide (q ∈ ps) := by
      by_cases hc : q ∈ ps
      · rw [decide_eq_true hc]
        exact List.any_eq_true.mpr ⟨mkS q, List.mem_map.mpr ⟨q, hc, rfl⟩, by simp⟩
      · rw [decide_eq_false hc]
        apply Bool.eq_false_iff.mpr
        intro ha
        obtain ⟨y, hy, e⟩ := List.any_eq_true.mp ha
        obtain ⟨p, hp, rfl⟩ := SL_mem hy
        have e2 : mkS p = mkS q := by simpa using e
        exact hc (mkS_inj e2 ▸ hp)
    rw [e]; exact h)
theorem strs_lit3 (a b c : Tok) : StrsAre [.str (Str.ofString "") a, .str (Str.ofString ".") b, .str (Str.ofString "..") c] (SL [[], [46], [46, 46]]) := by
  rw [lit_nil, lit_dot, lit_dd]; exact .cons _ _ (.cons _ _ (.cons _ _ .nil))
theorem add_K (hz : a.length ≤ 16384) (hz2 : b.length ≤ 16384) (h : ∀ t' j, Q (valK k (a ++ b) t') { s with toks := j }) : wpAny (model prog w) A (binaryOp .Add (valK k a t) (valK k b u)) Q E s := by
  cases k
  · exact add_S rfl rfl hz hz2 h
  · exact add_B rfl rfl hz hz2 h
theorem eq_K (h1 : OkK k a) (h2 : OkK k b) (h : Q (.bool (decide (a = b))) s) : wpAny (model prog w) A (compareOp .Eq (valK k a t) (valK k b u)) Q E s := by
  cases k
  · exact eq_S rfl rfl h
  · exact eq_B rfl rfl h1.small h2.small h
end
section
variable {prog : Program} {w : World} {A : Around} {E : Value → Shared → Prop} {s : Shared} {env : Env} {h₀ : Heap} {x : Str} {body : List Stmt} {Q : Flow → Shared → Prop}
/-- a for over a range that changes names alone -/
theorem for_rangeN {σ : Type} {r : Addr} {b₀ : Int} {t₀ u₀ v₀ : Tok} {m₀ : Str → Option Value} {X : List (Addr × Obj)} (n : Nat) (ps : σ → List (Str × Value)) (stored : List Str) (P : Nat → σ → Prop) (c₀ : σ)
    (hh : A.handled = none) (hr : IsRange s.heap r 0 b₀ 1 t₀ u₀ v₀) (F : Fr h₀ env.locals s.heap m₀) (N : News h₀ env.locals s.heap X) (hk : ∀ p ∈ ps c₀, m₀ p.1 = some p.2) (hp : P 0 c₀) (hn : b₀ = (n : Int)) (hb : n ≤ 20000)
    (turn : ∀ (c : σ) i k t (u : Str → Option Value) h tk I oI, i < n → k = (i : Int) → P i c → (∀ p ∈ X, p.1 ≠ I) →
      Fr h₀ env.locals h (fun y => if y = x then some (.int k t) else kstB (fun z => if stored.contains z then u z else m₀ z) (ps c) y) → News h₀ env.locals h ((I, oI) :: X) →
      wpAny (model prog w) A (execs body env) (TurnPost h₀ env.locals (fun _ : σ => X) ps x stored m₀ (P (i + 1)) I oI { s with heap := h, toks := tk } Q) E { s with heap := h, toks := tk })
    (done : ∀ (c : σ) (u : Str → Option Value) h tk, P n c → Fr h₀ env.locals h (fun y => if y = x then u y else kstB (fun z => if stored.contains z then u z else m₀ z) (ps c) y) → News h₀ env.locals h X → Q .next { s with heap := h, toks := tk }) :
    wpAny (model prog w) A (pyIter (.ref r)) (fun it s₂ => LoopAtV prog w A h₀ env x body Q E it s₂) E s := by
  subst hn
  exact for_range (n := n) (σ := σ) (fun _ => X) ps stored P c₀ hh hr (small_one (by omega) (by omega) (by omega) (by omega)) (by rw [rangeSize_nat]; omega) F N hk hp
    (fun c i k t u h tk I oI hi hk hp hne F' N' => turn c i k t u h tk I oI hi (by omega) hp hne F' N') done
end
theorem strk_len (ps : List (List Nat)) : (strk ps).length ≤ ps.length := by
  unfold strk
  rw [List.length_append, List.length_replicate]
  induction ps with
  | nil => exact Nat.le_refl _
  | cons p ps ih =>
    rw [back_cons, List.length_cons]
    unfold bstep
    split
    · simp only; omega
    · split
      · split
        · simp only; omega
        · simp only [List.length_cons]; omega
      · omega
theorem ncomps_len (l : List Nat) : (ncomps l).length ≤ l.length + 1 := by
  unfold ncomps
  have h1 := fold_len (root := rootL l) (ps := splitL 47 (l.drop (rootL l).length)) (acc := [])
  have h2 := splitL_length 47 (l.drop (rootL l).length)
  rw [List.length_drop] at h2
  simp only [List.length_nil] at h1
  omega
theorem cut_0 (l : List Nat) : ((normL l).length : Int) = (((normL l).length - (lastL l).length + extR (lastL l) 0 : Nat) : Int) := by
  have := last_len (l := l)
  show _ = (((normL l).length - (lastL l).length + (lastL l).length : Nat) : Int)
  omega
theorem cut_1 {l : List Nat} {i : Nat} (h : extR (lastL l) (i + 1) = i) : ((normL l).length : Int) - ((lastL l).length : Int) + (i : Int) = (((normL l).length - (lastL l).length + extR (lastL l) (i + 1) : Nat) : Int) := by
  have := last_len (l := l)
  rw [h]; omega
theorem cut_2 {l : List Nat} {i : Nat} {x : Int} (e : x = (((normL l).length - (lastL l).length + extR (lastL l) i : Nat) : Int)) (h : extR (lastL l) (i + 1) = extR (lastL l) i) : x = (((normL l).length - (lastL l).length + extR (lastL l) (i + 1) : Nat) : Int) := by
  rw [h]; exact e
theorem norm_sl (l : List Nat) (k : Nat) : l.take k = pySl l none (some (k : Int)) ∧ l.drop k = pySl l (some (k : Int)) none := ⟨(pySl_to l k).symm, (pySl_from l k).symm⟩
theorem fin_dots {l q : List Nat} (h : (splitL 47 l).getLast? = some q) (h2 : q ∈ [[], [46], [46, 46]]) : decide (l.take (extK l) = l ∧ l.drop (extK l) = pySl l none (some 0)) = true := by
  rw [split_last] at h
  cases h
  have h3 : tlL l = [] ∨ tlL l = [46] ∨ tlL l = [46, 46] := by simpa using h2
  obtain ⟨a, b⟩ := law_dots h3
  exact decide_eq_true ⟨a, b.trans (sl_zero l).symm⟩
theorem fin_all (l : List Nat) (k : Nat) : decide (l.take k ++ l.drop k = l) = true := decide_eq_true (List.take_append_drop k l)
theorem fin_name {l q : List Nat} (h : (splitL 47 l).getLast? = some q) (h2 : ¬ q ∈ [[], [46], [46, 46]]) : normL (l.take (extK l)) = pySl (normL l) none (some ((extK (normL l) : Nat) : Int)) ∧ l.drop (extK l) = pySl (normL l) (some ((extK (normL l) : Nat) : Int)) none := by
  rw [split_last] at h
  cases h
  obtain ⟨a, b⟩ := law_name h2
  rw [pySl_to, pySl_from]
  exact ⟨a, b⟩
end Mine
namespace Mine
set_option compiler.extract_closed false
set_option linter.all false
/-! the walk's own lines -/
local macro_rules | `(tactic| k_room) => `(tactic| ktr_room)
local macro_rules | `(tactic| k_units) => `(tactic| ktr_units)
local macro_rules | `(tactic| walk_at "getMethod bytes") => `(tactic| (k_here; first | with_reducible refine meth_rfind ?_ | with_reducible refine meth_split ?_ | with_reducible refine meth_join ?_))
local macro_rules | `(tactic| walk_at "call type:type") => `(tactic| (k_here; (with_reducible show wpAny _ _ (call (Value.type "type") [Value.bytes _ _]) _ _ _); refine Stop.of ?_))
local macro_rules | `(tactic| walk_at "exec While Compare cons nil") => `(tactic| refine Stop.of ?_)
local macro_rules | `(tactic| walk_at "exec For Name Name cons nil") => `(tactic| refine Stop.of ?_)
local macro_rules | `(tactic| walk_at "exec For Name Call cons nil") => `(tactic| refine Stop.of ?_)
local macro_rules | `(tactic| walk_at "pyIter ref") => `(tactic| ((with_reducible show wpAny _ _ (pyIter (Value.ref _)) (fun it s₂ => LoopAtV _ _ _ _ _ _ _ _ _ it s₂) _ _); refine Stop.of ?_))
local macro_rules | `(tactic| k_all) => `(tactic| first | exact off_mem (by assumption) | exact off_mem (And.right (by assumption)) | exact off_mem (And.right (And.right (by assumption))))
local macro_rules | `(tactic| walk_at "eval ListComp") => `(tactic| refine Stop.of ?_)
local macro_rules | `(tactic| walk_at "exec Assign cons ListComp") => `(tactic| refine Stop.of ?_)
local macro_rules | `(tactic| walk_at "call builtin:str.join") => `(tactic| refine Stop.of ?_)
local macro_rules | `(tactic| wrow_close) => `(tactic| first | ((with_reducible show KswEnd _ _ _ _ _ _ _ _ _ _ _ _); refine' stopG ?_) | ((with_reducible show TurnEnd _ _ _ _ _ _ _ _ _ _ _ _); refine' stopG ?_) | ((with_reducible show TurnPost _ _ _ _ _ _ _ _ _ _ _ _ _ _); dsimp only [TurnPost]) | (w_end; refine' goodStop ?_))
local macro_rules | `(tactic| kc_close) => `(tactic| (kc_bool; refine' goodStop ?_))
set_option maxHeartbeats 100000000 in
open_top hd for PySem.Challenge.rw_ko0129_02
local macro_rules | `(tactic| walk_at "kk s") => `(tactic| refine Stop.of ?_)
local macro_rules | `(tactic| walk_at "call builtin:issubclass") => `(tactic| walk_at "kk s")
local macro_rules | `(tactic| walk_at "call builtin:str.rfind") => `(tactic| walk_at "kk s")
local macro_rules | `(tactic| walk_at "call builtin:str.lstrip") => `(tactic| walk_at "kk s")
local macro_rules | `(tactic| walk_at "call builtin:bytes.rfind") => `(tactic| walk_at "kk s")
local macro_rules | `(tactic| walk_at "call builtin:len") => `(tactic| walk_at "kk s")
local macro_rules | `(tactic| walk_at "truthy str") => `(tactic| walk_at "kk s")
local macro_rules | `(tactic| walk_at "truthy bytes") => `(tactic| walk_at "kk s")
local macro_rules | `(tactic| walk_at "compareOp Eq str str") => `(tactic| walk_at "kk s")
local macro_rules | `(tactic| walk_at "compareOp NotEq str str") => `(tactic| walk_at "kk s")
local macro_rules | `(tactic| walk_at "compareOp Eq bytes bytes") => `(tactic| walk_at "kk s")
local macro_rules | `(tactic| walk_at "compareOp NotEq bytes bytes") => `(tactic| walk_at "kk s")
local macro_rules | `(tactic| walk_at "subscriptTail Name Slice str ref") => `(tactic| walk_at "kk s")
local macro_rules | `(tactic| walk_at "subscriptTail Name Slice bytes ref") => `(tactic| walk_at "kk s")
local macro_rules | `(tactic| walk_at "call builtin:ord") => `(tactic| walk_at "kk s")
local macro_rules | `(tactic| walk_at "call ref") => `(tactic| walk_at "kk s")
local macro_rules | `(tactic| walk_at "call builtin:str.split") => `(tactic| walk_at "kk s")
local macro_rules | `(tactic| walk_at "call builtin:list.append") => `(tactic| walk_at "kk s")
local macro_rules | `(tactic| walk_at "truthy ref") => `(tactic| walk_at "kk s")
local macro_rules | `(tactic| walk_at "subscriptTail Name UnaryOp ref int") => `(tactic| walk_at "kk s")
local macro_rules | `(tactic| walk_at "call builtin:list.pop") => `(tactic| walk_at "kk s")
local macro_rules | `(tactic| walk_at "call builtin:str.join") => `(tactic| walk_at "kk s")
local macro_rules | `(tactic| walk_at "binaryOp Add str str") => `(tactic| walk_at "kk s")
local macro_rules | `(tactic| walk_at "call builtin:bytes.split") => `(tactic| walk_at "kk s")
local macro_rules | `(tactic| walk_at "binaryOp Add bytes bytes") => `(tactic| walk_at "kk s")
local macro_rules | `(tactic| walk_at "call builtin:bytes.join") => `(tactic| walk_at "kk s")
local macro_rules | `(tactic| walk_at "call builtin:chr") => `(tactic| walk_at "kk s")
local macro_rules | `(tactic| walk_at "inplaceOp Add str str") => `(tactic| walk_at "kk s")
local macro_rules | `(tactic| walk_at "subscriptTail Name Name ref int") => `(tactic| walk_at "kk s")
local macro_rules | `(tactic| walk_at "subscriptTail Name BinOp ref int") => `(tactic| walk_at "kk s")
local macro_rules | `(tactic| walk_at "subscriptTail Name Slice ref ref") => `(tactic| walk_at "kk s")
local macro_rules | `(tactic| walk_at "binaryOp Add ref ref") => `(tactic| walk_at "kk s")
local macro_rules | `(tactic| walk_at "compareOp NotIn str ref") => `(tactic| walk_at "kk s")
local macro_rules | `(tactic| walk_at "compareOp NotEq ref ref") => `(tactic| walk_at "kk s")
local macro_rules | `(tactic| walk_at "compareOp Eq ref ref") => `(tactic| walk_at "kk s")
local macro_rules | `(tactic| walk_at "compareOp In str ref") => `(tactic| walk_at "kk s")
local macro_rules | `(tactic| walk_at "subscriptTail Name Name str int") => `(tactic| walk_at "kk s")
local macro_rules | `(tactic| walk_at "compareOp Eq") => `(tactic| walk_at "kk s")
local macro_rules | `(tactic| walk_at "binaryOp Add") => `(tactic| walk_at "kk s")
theorem filled1 : (PySem.Challenge.rw_ko0129_02.prog, Mine.hd.heap_39) = (PySem.Challenge.rw_ko0129_02.prog, Mine.hd.heap_39) := by
  k_fill
  rfl
set_option maxRecDepth 100000 in
set_option maxHeartbeats 100000000 in
theorem fspath_S (news : List (Addr × Obj)) (l : List Nat) (t : Tok) : Spec PySem.Challenge.rw_ko0129_02.row.prog Mine.hd.view_39 Mine.hd.heap_39 101 4 20 [.str (mkS l) t] news (fun led v => led = [] ∧ v = .str (mkS l) t) := by
  w_top off
  unfold Spec
  intros
  rename_i hret
  refine wpAny_call ?_
  k_dflt cell_enter
  (k_steps; repeat' ((with_reducible refine Stop.un ?_); (first | (first | ((with_reducible show wpAny _ _ (call (Value.builtin _) [Value.type "str", Value.ref _]) _ _ _); refine issub_str (News.get (by assumption) (by k_mem)) ?_; intro tk9) | ((with_reducible show wpAny _ _ (call (Value.builtin _) [Value.type "bytes", Value.ref _]) _ _ _); refine issub_bytes (News.get (by assumption) (by k_mem)) ?_; intro tk9))); k_steps))
  all_goals exact hret [] _ _ _ ⟨rfl, rfl⟩ no_led (by k_asm) (cb_drop (by assumption) (by intro p hp; k_ownIn))
set_option maxRecDepth 100000 in
set_option maxHeartbeats 100000000 in
theorem fspath_B (news : List (Addr × Obj)) (l : List Nat) (t : Tok) : Spec PySem.Challenge.rw_ko0129_02.row.prog Mine.hd.view_39 Mine.hd.heap_39 101 4 20 [.bytes (mkB l) t] news (fun led v => led = [] ∧ v = .bytes (mkB l) t) := by
  w_top off
  unfold Spec
  intros
  rename_i hret
  refine wpAny_call ?_
  k_dflt cell_enter
  (k_steps; repeat' ((with_reducible refine Stop.un ?_); (first | ((with_reducible show wpAny _ _ (call (Value.type "type") [Value.bytes _ _]) _ _ _); k_dflt (refine' call_type_of (Tx := "bytes") (typeIs_bytes _ _ _) ?hbZq ?_; (case hbZq => decide); k_whole)) | (first | ((with_reducible show wpAny _ _ (call (Value.builtin _) [Value.type "str", Value.ref _]) _ _ _); refine issub_str (News.get (by assumption) (by k_mem)) ?_; intro tk9) | ((with_reducible show wpAny _ _ (call (Value.builtin _) [Value.type "bytes", Value.ref _]) _ _ _); refine issub_bytes (News.get (by assumption) (by k_mem)) ?_; intro tk9))); k_steps))
  all_goals exact hret [] _ _ _ ⟨rfl, rfl⟩ no_led (by k_asm) (cb_drop (by assumption) (by intro p hp; k_ownIn))
section
set_option maxRecDepth 100000 in
set_option maxHeartbeats 100000000 in
theorem splitroot_S (news : List (Addr × Obj)) (l : List Nat) (t : Tok) (hz : l.length ≤ 4096) : Spec PySem.Challenge.rw_ko0129_02.row.prog Mine.hd.view_39 Mine.hd.heap_39 125 8 60 [.str (mkS l) t] news (fun led v => ∃ (q : Addr) (t1 t2 t3 : Tok) (y1 y2 y3 : Str), v = .ref q ∧ led = [(q, tupO [.str y1 t1, .str y2 t2, .str y3 t3])] ∧ y1 = mkS [] ∧ y2 = mkS (rootL l) ∧ y3 = mkS (l.drop (rootL l).length)) := by
  w_top off
  unfold Spec
  intros
  rename_i hret
  refine wpAny_call ?_
  k_dflt cell_enter
  (k_steps; repeat' ((with_reducible refine Stop.un ?_); (first | ((with_reducible show wpAny _ _ (call (Value.ref 101) [Value.str (mkS _) _]) _ _ _); k_dflt (refine' Spec.use2 (by k_asm) (by k_asm) (by k_asm) (by k_asm) (by k_asm) (by first | exact rfl | assumption) (fspath_S _ _ _) (by ktr_room) (by ktr_units) ?_; k_whole); intro led' v' h' tk' hR' hfr' F' N'; (obtain ⟨hL', hV'⟩ := hR'); subst hL' hV'; (try simp only [List.nil_append, List.cons_append] at F' N'); (try clear hfr'); k_sweep) | ((with_reducible show wpAny _ _ (subscriptTail _ (Expr.Slice _ _ none _) (Value.str (mkS _) _) (Value.ref _)) _ _ _); (with_reducible rename Fr _ _ _ _ => F'); (with_reducible rename News _ _ _ _ => N'); k_dflt (refine' slice_S (s := ⟨_, _, _, _, _⟩) F' N' ?h1Zq ?h2Zq ?hzZq ?_; (case h1Zq => constructor); (case h2Zq => constructor); (case hzZq => omega); k_whole); intro h' t' tk' F' N' hlen'; (try k_sweep)) | ((with_reducible show wpAny _ _ (compareOp CmpOp.NotEq (Value.str _ _) (Value.str _ _)) _ _ _); k_dflt (refine' ne_S ?hxZq ?hyZq ?_; (case hxZq => first | with_reducible rfl | with_reducible exact lit_slash | with_reducible exact lit_dot | with_reducible exact lit_dd | with_reducible exact lit_nil); (case hyZq => first | with_reducible rfl | with_reducible exact lit_slash | with_reducible exact lit_dot | with_reducible exact lit_dd | with_reducible exact lit_nil); k_whole)) | ((with_reducible show wpAny _ _ (compareOp CmpOp.Eq (Value.str _ _) (Value.str _ _)) _ _ _); k_dflt (refine' eq_S ?hxZq ?hyZq ?_; (case hxZq => first | with_reducible rfl | with_reducible exact lit_slash | with_reducible exact lit_dot | with_reducible exact lit_dd | with_reducible exact lit_nil); (case hyZq => first | with_reducible rfl | with_reducible exact lit_slash | with_reducible exact lit_dot | with_reducible exact lit_dd | with_reducible exact lit_nil); k_whole))); k_steps))
  all_goals (refine hret_one hret (by assumption) (by assumption) ⟨_, _, _, _, _, _, _, rfl, rfl, ?_, ?_, ?_⟩ (by first | assumption | exact allLt_mem (by assumption) | exact allLt_mem (And.right (by assumption)) | exact allLt_mem (And.right (And.right (by assumption))) | exact allLt_mem (And.right (And.right (And.right (by assumption))))) (by intro p hp; k_ownIn))
  all_goals first
    | exact lit_nil
    | (rw [root_0 (by with_reducible assumption)]; exact lit_nil)
    | (rw [root_0 (by with_reducible assumption)]; rfl)
    | (rw [root_1 (by with_reducible assumption) (by with_reducible assumption)]; exact lit_slash)
    | (rw [root_1b (by with_reducible assumption) (by with_reducible assumption)]; exact lit_slash)
    | (rw [root_1 (by with_reducible assumption) (by with_reducible assumption), pySl1]; rfl)
    | (rw [root_1b (by with_reducible assumption) (by with_reducible assumption), pySl1]; rfl)
    | (rw [root_2 (by with_reducible assumption) (by with_reducible assumption) (by with_reducible assumption), two_take (by with_reducible assumption) (by with_reducible assumption)])
    | (rw [root_2 (by with_reducible assumption) (by with_reducible assumption) (by with_reducible assumption), pySl2]; rfl)
set_option maxRecDepth 100000 in
set_option maxHeartbeats 100000000 in
theorem normpath_S (news : List (Addr × Obj)) (l : List Nat) (t : Tok) (hz : l.length ≤ 2000) : Spec PySem.Challenge.rw_ko0129_02.row.prog Mine.hd.view_39 Mine.hd.heap_39 132 20 120 [.str (mkS l) t] news (fun led v => led = [] ∧ ∃ (y : Str) (t : Tok), v = .str y t ∧ y = mkS (normL l)) := by
  w_top off
  unfold Spec
  intros
  rename_i hret
  refine wpAny_call ?_
  k_dflt cell_enter
  (k_steps; repeat' ((with_reducible refine Stop.un ?_); (first | ((with_reducible show wpAny _ _ (call (Value.builtin "str.split") [Value.str (mkS _) _, Value.str _ _]) _ _ _); k_dflt (refine' strSplit_S ?FZq ?NZq ?yZq ?zZq ?_; (case FZq => k_asm); (case NZq => k_asm); (case yZq => first | with_reducible rfl | with_reducible exact lit_slash | with_reducible exact lit_dot | with_reducible exact lit_dd | with_reducible exact lit_nil); (case zZq => first | omega | ((simp only [List.length_append, List.length_take, List.length_drop, List.length_cons, List.length_nil, List.length_replicate, List.length_reverse]); omega)); k_whole); intro D' us' h' tk' hS' F' N' l1; (try k_lt l1); (try k_sweep)) | ((with_reducible show wpAny _ _ (call (Value.ref 125) [Value.str (mkS _) _]) _ _ _); k_dflt (refine' Spec.use2 (by k_asm) (by k_asm) (by k_asm) (by k_asm) (by k_asm) (by first | exact rfl | assumption) (splitroot_S _ _ _ ?p1Zq) (by ktr_room) (by ktr_units) ?_; (case p1Zq => first | omega | (rw [List.length_drop]; omega)); k_whole); intro led' v' h' tk' hR' hfr' F' N'; (obtain ⟨q', t1', t2', t3', y1', y2', y3', hV', hL', hX', hY', hZ'⟩ := hR'); subst hV' hL' hX' hY' hZ'; (have hfr2 := hfr' _ (List.Mem.head _)); (try k_lt hfr2); (try simp only [List.nil_append, List.cons_append] at F' N'); (try clear hfr'); k_sweep) | ((with_reducible show wpAny _ _ (call (Value.ref 101) [Value.str (mkS _) _]) _ _ _); k_dflt (refine' Spec.use2 (by k_asm) (by k_asm) (by k_asm) (by k_asm) (by k_asm) (by first | exact rfl | assumption) (fspath_S _ _ _) (by ktr_room) (by ktr_units) ?_; k_whole); intro led' v' h' tk' hR' hfr' F' N'; (obtain ⟨hL', hV'⟩ := hR'); subst hL' hV'; (try simp only [List.nil_append, List.cons_append] at F' N'); (try clear hfr'); k_sweep) | ((with_reducible show wpAny _ _ (truthy (Value.str (mkS _) _)) _ _ _); k_dflt (refine' truthy_S ?hzZq ?_; (case hzZq => omega); k_whole))); k_steps))
  · unfold Stop
    refine For_invVF (by assumption) rfl rfl ?_
    k_steps
    unfold Stop
    rename StrsAre _ (SL (splitL 47 _)) => hS
    refine' for_list (σ := List Value × Nat) (fun c => (_, listOf c.1.toArray c.2) :: _) (fun c => []) [] (fun i c => ∃ acc, StrsAre c.1 (SL acc) ∧ acc = ((splitL 47 (l.drop (rootL l).length)).take i).foldl (nstep (rootL l)) []) ([], 0) rfl ?h1 ?h2 ?h3 ?h4 ?h5 ?h6 ?turn ?done
    case h4 => exact cb_drop (by assumption) (fun p hp => hp)
    case h3 => assumption
    case h1 => exact News.isList (by assumption) (by (repeat (first | (with_reducible assumption) | (with_reducible exact List.mem_cons_self ..) | (with_reducible refine List.mem_cons_of_mem _ ?_))))
    case h2 => exact .inr ⟨_, fun c => by (repeat (first | (with_reducible assumption) | (with_reducible exact List.mem_cons_self ..) | (with_reducible refine List.mem_cons_of_mem _ ?_)))⟩
    case h5 => kst_all
    case h6 => exact ⟨[], strs_nil, rfl⟩
    case turn =>
      rintro ⟨ws, n⟩ i v u h tk I oI hi' hv ⟨acc, hA, hacc⟩ hne F' N'
      dsimp only at *
      obtain ⟨p, t9, hp, rfl⟩ := strs_at hS hv
      have hpl := splitL_len (List.mem_of_getElem? hp)
      rw [List.length_drop] at hpl
      have hsl := splitL_length 47 (l.drop (rootL l).length)
      rw [List.length_drop] at hsl
      have hus := strs_len hS
      have hal := fold_len (root := rootL l) (ps := (splitL 47 (l.drop (rootL l).length)).take i) (acc := [])
      rw [← hacc, List.length_take, List.length_nil] at hal
      have hal2 : acc.length ≤ 8192 := by omega
      have hwl := strs_len hA
      simp only [List.forall_mem_cons] at hne
      obtain ⟨n1, n3⟩ := hne
      have n2 : @Ne Nat _ _ := n1
      have hrl := rootL_length l
      (k_steps; repeat' ((with_reducible refine Stop.un ?_); (first | ((with_reducible show wpAny _ _ (call (Value.builtin _) [Value.ref _]) _ _ _); k_dflt (refine' pop_T ?FZq ?NZq ?iZq ?pZq ?UZq ?zZq ?_; (case FZq => k_asm); (case NZq => k_asm); (case iZq => first | with_reducible assumption | exact strs_lit0 _ | with_reducible exact strs_one _ _ | with_reducible exact strs_nil | with_reducible exact strs_snocS (by with_reducible assumption) | with_reducible exact strs_consS (by with_reducible assumption) | exact strs_snocG (by with_reducible assumption) lit_nil); (case pZq => first | with_reducible assumption); (case UZq => k_upd); (case zZq => first | omega | ((simp only [List.length_append, List.length_take, List.length_drop, List.length_cons, List.length_nil, List.length_replicate, List.length_reverse]); omega)); k_whole); intro h' q' t' F' N'; (try k_sweep)) | ((with_reducible show wpAny _ _ (subscriptTail _ _ _ _) _ _ _); (show wpAny _ _ (subscriptTail _ _ (Value.ref _) (Value.int (-1) _)) _ _ _); k_dflt (refine' itemLast_T ?NZq ?mZq ?iZq ?pZq ?zZq ?_ ?hsZq ?htZq; (case NZq => k_asm); (case mZq => (repeat (first | (with_reducible assumption) | (with_reducible exact List.mem_cons_self ..) | (with_reducible refine List.mem_cons_of_mem _ ?_)))); (case iZq => first | with_reducible assumption | exact strs_lit0 _ | with_reducible exact strs_one _ _ | with_reducible exact strs_nil | with_reducible exact strs_snocS (by with_reducible assumption) | with_reducible exact strs_consS (by with_reducible assumption) | exact strs_snocG (by with_reducible assumption) lit_nil); (case pZq => first | with_reducible assumption); (case zZq => first | omega | ((simp only [List.length_append, List.length_take, List.length_drop, List.length_cons, List.length_nil, List.length_replicate, List.length_reverse]); omega)); (case hsZq => with_unfolding_all rfl); (case htZq => (intro _; with_unfolding_all rfl)); k_whole); intro q' t' hq') | ((with_reducible show wpAny _ _ (truthy (Value.ref _)) _ _ _); k_dflt (refine' truthy_V ?NZq ?mZq ?lZq ?zZq ?_; (case NZq => k_asm); (case mZq => (repeat (first | (with_reducible assumption) | (with_reducible exact List.mem_cons_self ..) | (with_reducible refine List.mem_cons_of_mem _ ?_)))); (case lZq => exact strs_len (by first | with_reducible assumption | exact strs_lit0 _ | with_reducible exact strs_one _ _ | with_reducible exact strs_nil | with_reducible exact strs_snocS (by with_reducible assumption) | with_reducible exact strs_consS (by with_reducible assumption) | exact strs_snocG (by with_reducible assumption) lit_nil)); (case zZq => first | omega | ((simp only [List.length_append, List.length_take, List.length_drop, List.length_cons, List.length_nil, List.length_replicate, List.length_reverse]); omega)); k_whole); intro tk') | ((with_reducible show wpAny _ _ (call (Value.builtin _) [Value.ref _, Value.str _ _]) _ _ _); k_dflt (refine' append_V ?FZq ?NZq ?UZq ?zZq ?_; (case FZq => k_asm); (case NZq => k_asm); (case UZq => k_upd); (case zZq => first | omega | ((rw [strs_len (by with_reducible assumption)]); (first | omega | ((simp only [List.length_append, List.length_take, List.length_drop, List.length_cons, List.length_nil, List.length_replicate, List.length_reverse]); omega)))); k_whole); intro h' F' N'; (try k_sweep)) | ((with_reducible show wpAny _ _ (compareOp CmpOp.NotEq (Value.str _ _) (Value.str _ _)) _ _ _); k_dflt (refine' ne_S ?hxZq ?hyZq ?_; (case hxZq => first | with_reducible rfl | with_reducible exact lit_slash | with_reducible exact lit_dot | with_reducible exact lit_dd | with_reducible exact lit_nil); (case hyZq => first | with_reducible rfl | with_reducible exact lit_slash | with_reducible exact lit_dot | with_reducible exact lit_dd | with_reducible exact lit_nil); k_whole)) | ((with_reducible show wpAny _ _ (compareOp CmpOp.Eq (Value.str _ _) (Value.str _ _)) _ _ _); k_dflt (refine' eq_S ?hxZq ?hyZq ?_; (case hxZq => first | with_reducible rfl | with_reducible exact lit_slash | with_reducible exact lit_dot | with_reducible exact lit_dd | with_reducible exact lit_nil); (case hyZq => first | with_reducible rfl | with_reducible exact lit_slash | with_reducible exact lit_dot | with_reducible exact lit_dd | with_reducible exact lit_nil); k_whole)) | ((with_reducible show wpAny _ _ (truthy (Value.str (mkS _) _)) _ _ _); k_dflt (refine' truthy_S ?hzZq ?_; (case hzZq => omega); k_whole))); k_steps))
      all_goals try rw [StopG.eq]
      all_goals ((refine' turn_end (σ := List Value × Nat) (_, _) ?F ?N ?hn ?hI ?hne ?hk ?hr ?hp); (case F => with_reducible assumption); (case N => with_reducible assumption); (case hn => exact List.forall_mem_cons.mpr ⟨by (repeat (first | (with_reducible assumption) | (with_reducible exact List.mem_cons_self ..) | (with_reducible refine List.mem_cons_of_mem _ ?_))), by intro p hp; k_ownIn⟩); (case hI => (repeat (first | (with_reducible assumption) | (with_reducible exact List.mem_cons_self ..) | (with_reducible refine List.mem_cons_of_mem _ ?_)))); (case hne => (simp only [List.forall_mem_cons]; exact ⟨n1, n3⟩)); (case hk => kst_all); (case hr => intro z h1 h2 h3; (simp only [List.forall_mem_cons, List.not_mem_nil, false_implies, implies_true, and_true, ne_eq] at h2); first | (simp only [kstB, h1, h2, List.contains_nil, if_false, Bool.false_eq_true, reduceIte]; done) | ((have h4 := h3); (simp only [List.contains_cons, List.contains_nil, Bool.or_false, Bool.or_eq_false_iff, beq_eq_false_iff_ne, ne_eq] at h4); (simp only [kstB, h1, h2, h3, h4, if_false, Bool.false_eq_true, reduceIte]; done))); (case hp =>
        refine ⟨nstep (rootL l) acc p, ?_, (fold_take hp hacc).symm⟩
        dsimp only
        first
          | (rw [nstep_a (by first | with_reducible assumption | exact Decidable.not_not.mp (by with_reducible assumption) | exact not_not_intro (by with_reducible assumption))]; exact hA)
          | (rw [nstep_a' (by first | with_reducible assumption | exact Decidable.not_not.mp (by with_reducible assumption) | exact not_not_intro (by with_reducible assumption))]; exact hA)
          | (rw [nstep_b (by first | with_reducible assumption | exact Decidable.not_not.mp (by with_reducible assumption) | exact not_not_intro (by with_reducible assumption))]; exact hA)
          | (rw [nstep_c (by first | with_reducible assumption | exact Decidable.not_not.mp (by with_reducible assumption) | exact not_not_intro (by with_reducible assumption)) (by first | with_reducible assumption | exact Decidable.not_not.mp (by with_reducible assumption) | exact not_not_intro (by with_reducible assumption)) (by first | with_reducible assumption | exact Decidable.not_not.mp (by with_reducible assumption) | exact not_not_intro (by with_reducible assumption))]; exact strs_snocS hA)
          | (rw [nstep_d (by first | with_reducible assumption | exact Decidable.not_not.mp (by with_reducible assumption) | exact not_not_intro (by with_reducible assumption)) (by first | with_reducible assumption | exact Decidable.not_not.mp (by with_reducible assumption) | exact not_not_intro (by with_reducible assumption)) (by first | with_reducible assumption | exact Decidable.not_not.mp (by with_reducible assumption) | exact not_not_intro (by with_reducible assumption)) (by first | with_reducible assumption | exact Decidable.not_not.mp (by with_reducible assumption) | exact not_not_intro (by with_reducible assumption))]; exact strs_snocS hA)
          | (rw [nstep_e (by first | with_reducible assumption | exact Decidable.not_not.mp (by with_reducible assumption) | exact not_not_intro (by with_reducible assumption)) (by first | with_reducible assumption | exact Decidable.not_not.mp (by with_reducible assumption) | exact not_not_intro (by with_reducible assumption)) (by first | with_reducible assumption | exact Decidable.not_not.mp (by with_reducible assumption) | exact not_not_intro (by with_reducible assumption)) (by first | with_reducible assumption | exact Decidable.not_not.mp (by with_reducible assumption) | exact not_not_intro (by with_reducible assumption))]; exact strs_snocS hA)
          | (rw [nstep_f (by first | with_reducible assumption | exact Decidable.not_not.mp (by with_reducible assumption) | exact not_not_intro (by with_reducible assumption)) (by first | with_reducible assumption | exact Decidable.not_not.mp (by with_reducible assumption) | exact not_not_intro (by with_reducible assumption)) (by first | with_reducible assumption | exact Decidable.not_not.mp (by with_reducible assumption) | exact not_not_intro (by with_reducible assumption)) (by first | with_reducible assumption | exact Decidable.not_not.mp (by with_reducible assumption) | exact not_not_intro (by with_reducible assumption)) (by first | with_reducible assumption | exact Decidable.not_not.mp (by with_reducible assumption) | exact not_not_intro (by with_reducible assumption))]; exact strs_dropLast hA)
          | (rw [nstep_g (by first | with_reducible assumption | exact Decidable.not_not.mp (by with_reducible assumption) | exact not_not_intro (by with_reducible assumption)) (by first | with_reducible assumption | exact Decidable.not_not.mp (by with_reducible assumption) | exact not_not_intro (by with_reducible assumption)) (by first | with_reducible assumption | exact Decidable.not_not.mp (by with_reducible assumption) | exact not_not_intro (by with_reducible assumption)) (by first | with_reducible assumption | exact Decidable.not_not.mp (by with_reducible assumption) | exact not_not_intro (by with_reducible assumption)) (by first | with_reducible assumption | exact Decidable.not_not.mp (by with_reducible assumption) | exact not_not_intro (by with_reducible assumption))]; exact hA)))
    case done =>
      rintro ⟨ws, n⟩ u h tk ⟨acc, hA, hacc⟩ F' N'
      dsimp only at *
      have hus := strs_len hS
      have hac : acc = ncomps l := by rw [hacc, hus, List.take_length]; rfl
      subst hac
      have hw := ncomps_wt l
      have hw2 : wt (ncomps l) ≤ 16384 := by omega
      have hw3 := wt_join 47 (ncomps l)
      have hrl := rootL_length l
      have hw4 : (rootL l ++ joinL [47] (ncomps l)).length ≤ 2010 := by rw [List.length_append]; omega
      (k_steps; repeat' ((with_reducible refine Stop.un ?_); (first | ((with_reducible show wpAny _ _ (binaryOp _ _ _) _ _ _); (show wpAny _ _ (binaryOp Operator.Add (Value.str (mkS _) _) (Value.str _ _)) _ _ _); k_dflt (refine' add_S ?hxZq ?hyZq ?hzZq ?h2Zq ?_; (case hxZq => with_reducible rfl); (case hyZq => first | with_reducible rfl | exact (mkS_eta _).symm); (case hzZq => first | omega | ((simp only [List.length_append, List.length_take, List.length_drop, List.length_cons, List.length_nil, List.length_replicate, List.length_reverse]); omega)); (case h2Zq => first | omega | (exact Nat.le_trans (by with_reducible assumption) (by omega)) | ((simp only [List.length_cons, List.length_nil, cps_len]); omega)); k_whole); intro t' tk') | ((with_reducible show wpAny _ _ (call (Value.builtin _) [Value.str _ _, Value.ref _]) _ _ _); k_dflt (refine' join_S ?NZq ?yZq ?mZq ?iZq ?zZq ?_; (case NZq => k_asm); (case yZq => first | with_reducible rfl | with_reducible exact lit_slash | with_reducible exact lit_dot | with_reducible exact lit_dd | with_reducible exact lit_nil); (case mZq => (repeat (first | (with_reducible assumption) | (with_reducible exact List.mem_cons_self ..) | (with_reducible refine List.mem_cons_of_mem _ ?_)))); (case iZq => first | with_reducible assumption | exact strs_lit0 _ | with_reducible exact strs_one _ _ | with_reducible exact strs_nil | with_reducible exact strs_snocS (by with_reducible assumption) | with_reducible exact strs_consS (by with_reducible assumption) | exact strs_snocG (by with_reducible assumption) lit_nil); (case zZq => first | with_reducible assumption | omega); k_whole); intro t' tk') | ((with_reducible show wpAny _ _ (truthy (Value.str (mkS _) _)) _ _ _); k_dflt (refine' truthy_S ?hzZq ?_; (case hzZq => omega); k_whole))); k_steps))
      all_goals ((refine' hret [] _ _ _ ⟨rfl, _, _, rfl, ?hy⟩ no_led ?F (cb_drop ?N ?sub)); (case F => with_reducible assumption); (case N => with_reducible assumption); (case sub => (intro p hp; k_ownIn)); (case hy =>
        unfold normL
        first
          | rw [if_neg (by first | with_reducible assumption | exact Decidable.not_not.mp (by with_reducible assumption) | exact not_not_intro (by with_reducible assumption)), if_neg (by first | with_reducible assumption | exact Decidable.not_not.mp (by with_reducible assumption) | exact not_not_intro (by with_reducible assumption))]
          | (rw [if_neg (by first | with_reducible assumption | exact Decidable.not_not.mp (by with_reducible assumption) | exact not_not_intro (by with_reducible assumption)), if_pos (Decidable.not_not.mp (by first | with_reducible assumption | exact Decidable.not_not.mp (by with_reducible assumption) | exact not_not_intro (by with_reducible assumption)))]; exact lit_dot)
          | (rw [if_neg (by first | with_reducible assumption | exact Decidable.not_not.mp (by with_reducible assumption) | exact not_not_intro (by with_reducible assumption)), if_pos (by first | with_reducible assumption | exact Decidable.not_not.mp (by with_reducible assumption) | exact not_not_intro (by with_reducible assumption))]; exact lit_dot)))
  · (refine' hret [] _ _ _ ⟨rfl, _, _, rfl, ?hy⟩ no_led ?F (cb_drop ?N ?sub)); (case F => with_reducible assumption); (case N => with_reducible assumption); (case sub => (intro p hp; k_ownIn)); (case hy =>
      unfold normL
      first
        | (rw [if_pos (Decidable.not_not.mp (by first | with_reducible assumption | exact Decidable.not_not.mp (by with_reducible assumption) | exact not_not_intro (by with_reducible assumption)))]; exact lit_dot)
        | (rw [if_pos (by first | with_reducible assumption | exact Decidable.not_not.mp (by with_reducible assumption) | exact not_not_intro (by with_reducible assumption))]; exact lit_dot))
end
section
set_option maxRecDepth 100000 in
set_option maxHeartbeats 100000000 in
theorem splitroot_B (news : List (Addr × Obj)) (l : List Nat) (t : Tok) (hz : l.length ≤ 4096) (hs : Small l) : Spec PySem.Challenge.rw_ko0129_02.row.prog Mine.hd.view_39 Mine.hd.heap_39 125 8 60 [.bytes (mkB l) t] news (fun led v => ∃ (q : Addr) (t1 t2 t3 : Tok) (y1 y2 y3 : Array UInt8), v = .ref q ∧ led = [(q, tupO [.bytes y1 t1, .bytes y2 t2, .bytes y3 t3])] ∧ y1 = mkB [] ∧ y2 = mkB (rootL l) ∧ y3 = mkB (l.drop (rootL l).length)) := by
  w_top off
  unfold Spec
  intros
  rename_i hret
  refine wpAny_call ?_
  k_dflt cell_enter
  (k_steps; repeat' ((with_reducible refine Stop.un ?_); (first | ((with_reducible show wpAny _ _ (call (Value.ref 101) [Value.bytes (mkB _) _]) _ _ _); k_dflt (refine' Spec.use2 (by k_asm) (by k_asm) (by k_asm) (by k_asm) (by k_asm) (by first | exact rfl | assumption) (fspath_B _ _ _) (by ktr_room) (by ktr_units) ?_; k_whole); intro led' v' h' tk' hR' hfr' F' N'; (obtain ⟨hL', hV'⟩ := hR'); subst hL' hV'; (try simp only [List.nil_append, List.cons_append] at F' N'); (try clear hfr'); k_sweep) | ((with_reducible show wpAny _ _ (subscriptTail _ (Expr.Slice _ _ none _) (Value.bytes (mkB _) _) (Value.ref _)) _ _ _); (with_reducible rename Fr _ _ _ _ => F'); (with_reducible rename News _ _ _ _ => N'); k_dflt (refine' slice_B (s := ⟨_, _, _, _, _⟩) F' N' ?h1Zq ?h2Zq ?hzZq ?_; (case h1Zq => constructor); (case h2Zq => constructor); (case hzZq => omega); k_whole); intro h' t' tk' F' N' hlen'; (try k_sweep)) | ((with_reducible show wpAny _ _ (compareOp CmpOp.NotEq (Value.bytes _ _) (Value.bytes _ _)) _ _ _); k_dflt (refine' ne_B ?hxZq ?hyZq ?h1Zq ?h2Zq ?_; (case hxZq => first | with_reducible rfl | with_reducible exact lit_slashB | with_reducible exact lit_dotB | with_reducible exact lit_ddB | with_reducible exact lit_nilB); (case hyZq => first | with_reducible rfl | with_reducible exact lit_slashB | with_reducible exact lit_dotB | with_reducible exact lit_ddB | with_reducible exact lit_nilB); (case h1Zq => first | with_reducible assumption | exact Small.sl (by with_reducible assumption) _ _ | (unfold Small; decide) | exact Small.rep (by decide) _); (case h2Zq => first | with_reducible assumption | exact Small.sl (by with_reducible assumption) _ _ | (unfold Small; decide) | exact Small.rep (by decide) _); k_whole)) | ((with_reducible show wpAny _ _ (compareOp CmpOp.Eq (Value.bytes _ _) (Value.bytes _ _)) _ _ _); k_dflt (refine' eq_B ?hxZq ?hyZq ?h1Zq ?h2Zq ?_; (case hxZq => first | with_reducible rfl | with_reducible exact lit_slashB | with_reducible exact lit_dotB | with_reducible exact lit_ddB | with_reducible exact lit_nilB); (case hyZq => first | with_reducible rfl | with_reducible exact lit_slashB | with_reducible exact lit_dotB | with_reducible exact lit_ddB | with_reducible exact lit_nilB); (case h1Zq => first | with_reducible assumption | exact Small.sl (by with_reducible assumption) _ _ | (unfold Small; decide)); (case h2Zq => first | with_reducible assumption | exact Small.sl (by with_reducible assumption) _ _ | (unfold Small; decide)); k_whole))); k_steps))
  all_goals (refine hret_one hret (by assumption) (by assumption) ⟨_, _, _, _, _, _, _, rfl, rfl, ?_, ?_, ?_⟩ (by first | assumption | exact allLt_mem (by assumption) | exact allLt_mem (And.right (by assumption)) | exact allLt_mem (And.right (And.right (by assumption))) | exact allLt_mem (And.right (And.right (And.right (by assumption))))) (by intro p hp; k_ownIn))
  all_goals first
    | exact lit_nilB
    | (rw [root_0 (by with_reducible assumption)]; exact lit_nilB)
    | (rw [root_0 (by with_reducible assumption)]; rfl)
    | (rw [root_1 (by with_reducible assumption) (by with_reducible assumption)]; exact lit_slashB)
    | (rw [root_1b (by with_reducible assumption) (by with_reducible assumption)]; exact lit_slashB)
    | (rw [root_1 (by with_reducible assumption) (by with_reducible assumption), pySl1]; rfl)
    | (rw [root_1b (by with_reducible assumption) (by with_reducible assumption), pySl1]; rfl)
    | (rw [root_2 (by with_reducible assumption) (by with_reducible assumption) (by with_reducible assumption), two_take (by with_reducible assumption) (by with_reducible assumption)])
    | (rw [root_2 (by with_reducible assumption) (by with_reducible assumption) (by with_reducible assumption), pySl2]; rfl)
set_option maxRecDepth 100000 in
set_option maxHeartbeats 100000000 in
theorem normpath_B (news : List (Addr × Obj)) (l : List Nat) (t : Tok) (hz : l.length ≤ 2000) (hs : Small l) : Spec PySem.Challenge.rw_ko0129_02.row.prog Mine.hd.view_39 Mine.hd.heap_39 132 20 120 [.bytes (mkB l) t] news (fun led v => led = [] ∧ ∃ (y : Array UInt8) (t : Tok), v = .bytes y t ∧ y = mkB (normL l)) := by
  w_top off
  unfold Spec
  intros
  rename_i hret
  refine wpAny_call ?_
  k_dflt cell_enter
  (k_steps; repeat' ((with_reducible refine Stop.un ?_); (first | ((with_reducible show wpAny _ _ (call (Value.builtin "bytes.split") [Value.bytes (mkB _) _, Value.bytes _ _]) _ _ _); k_dflt (refine' bsplit_B ?FZq ?NZq ?hsZq ?yZq ?cZq ?zZq ?_; (case FZq => k_asm); (case NZq => k_asm); (case hsZq => first | with_reducible assumption | with_reducible exact Small.sl (by with_reducible assumption) _ _ | with_reducible exact Small.head (by with_reducible assumption) | with_reducible exact Small.tl (by with_reducible assumption) | with_reducible exact Small.tk (by with_reducible assumption) _ | with_reducible exact Small.dr (by with_reducible assumption) _ | with_reducible exact Small.nil | with_reducible exact Small.one (by decide) | (unfold Small; decide)); (case yZq => first | with_reducible exact lit_slashB | exact rfl); (case cZq => decide); (case zZq => first | omega | ((simp only [List.length_append, List.length_take, List.length_drop, List.length_cons, List.length_nil, List.length_replicate, List.length_reverse]); omega)); k_whole); intro D' us' h' tk' hS' F' N' l1; (try k_lt l1); (try k_sweep)) | ((with_reducible show wpAny _ _ (call (Value.ref 125) [Value.bytes (mkB _) _]) _ _ _); k_dflt (refine' Spec.use2 (by k_asm) (by k_asm) (by k_asm) (by k_asm) (by k_asm) (by first | exact rfl | assumption) (splitroot_B _ _ _ ?p1Zq ?p2Zq) (by ktr_room) (by ktr_units) ?_; (case p1Zq => first | omega | (rw [List.length_drop]; omega)); (case p2Zq => first | with_reducible assumption | with_reducible exact Small.sl (by with_reducible assumption) _ _ | with_reducible exact Small.head (by with_reducible assumption) | with_reducible exact Small.tl (by with_reducible assumption) | with_reducible exact Small.nil | with_reducible exact Small.one (by decide) | (unfold Small; decide)); k_whole); intro led' v' h' tk' hR' hfr' F' N'; (obtain ⟨q', t1', t2', t3', y1', y2', y3', hV', hL', hX', hY', hZ'⟩ := hR'); subst hV' hL' hX' hY' hZ'; (have hfr2 := hfr' _ (List.Mem.head _)); (try k_lt hfr2); (try simp only [List.nil_append, List.cons_append] at F' N'); (try clear hfr'); k_sweep) | ((with_reducible show wpAny _ _ (call (Value.ref 101) [Value.bytes (mkB _) _]) _ _ _); k_dflt (refine' Spec.use2 (by k_asm) (by k_asm) (by k_asm) (by k_asm) (by k_asm) (by first | exact rfl | assumption) (fspath_B _ _ _) (by ktr_room) (by ktr_units) ?_; k_whole); intro led' v' h' tk' hR' hfr' F' N'; (obtain ⟨hL', hV'⟩ := hR'); subst hL' hV'; (try simp only [List.nil_append, List.cons_append] at F' N'); (try clear hfr'); k_sweep) | ((with_reducible show wpAny _ _ (truthy (Value.bytes (mkB _) _)) _ _ _); k_dflt (refine' truthy_B ?hzZq ?_; (case hzZq => omega); k_whole))); k_steps))
  · unfold Stop
    refine For_invVF (by assumption) rfl rfl ?_
    k_steps
    unfold Stop
    rename BysAre _ (splitL 47 _) => hS
    refine' for_list (σ := List Value × Nat) (fun c => (_, listOf c.1.toArray c.2) :: _) (fun c => []) [] (fun i c => ∃ acc, BysAre c.1 acc ∧ acc = ((splitL 47 (l.drop (rootL l).length)).take i).foldl (nstep (rootL l)) []) ([], 0) rfl ?h1 ?h2 ?h3 ?h4 ?h5 ?h6 ?turn ?done
    case h4 => exact cb_drop (by assumption) (fun p hp => hp)
    case h3 => assumption
    case h1 => exact News.isList (by assumption) (by (repeat (first | (with_reducible assumption) | (with_reducible exact List.mem_cons_self ..) | (with_reducible refine List.mem_cons_of_mem _ ?_))))
    case h2 => exact .inr ⟨_, fun c => by (repeat (first | (with_reducible assumption) | (with_reducible exact List.mem_cons_self ..) | (with_reducible refine List.mem_cons_of_mem _ ?_)))⟩
    case h5 => kst_all
    case h6 => exact ⟨[], bys_nil, rfl⟩
    case turn =>
      rintro ⟨ws, n⟩ i v u h tk I oI hi' hv ⟨acc, hA, hacc⟩ hne F' N'
      dsimp only at *
      obtain ⟨p, t9, hp, rfl⟩ := bys_at hS hv
      have hpl := splitL_len (List.mem_of_getElem? hp)
      rw [List.length_drop] at hpl
      have hsp : Small p := fun c hc => hs c (List.mem_of_mem_drop ((splitL_mem (List.mem_of_getElem? hp)).2 c hc))
      have hsa : ∀ q ∈ acc, Small q := by
        rw [hacc]
        exact fold_mem (by simp) (fun q hq c hc => hs c (List.mem_of_mem_drop ((splitL_mem (List.mem_of_mem_take hq)).2 c hc)))
      have hsl := splitL_length 47 (l.drop (rootL l).length)
      rw [List.length_drop] at hsl
      have hus := bys_len hS
      have hal := fold_len (root := rootL l) (ps := (splitL 47 (l.drop (rootL l).length)).take i) (acc := [])
      rw [← hacc, List.length_take, List.length_nil] at hal
      have hal2 : acc.length ≤ 8192 := by omega
      have hwl := bys_len hA
      simp only [List.forall_mem_cons] at hne
      obtain ⟨n1, n3⟩ := hne
      have n2 : @Ne Nat _ _ := n1
      have hrl := rootL_length l
      (k_steps; repeat' ((with_reducible refine Stop.un ?_); (first | ((with_reducible show wpAny _ _ (call (Value.builtin _) [Value.ref _]) _ _ _); k_dflt (refine' pop_Y ?FZq ?NZq ?iZq ?pZq ?UZq ?zZq ?_; (case FZq => k_asm); (case NZq => k_asm); (case iZq => first | with_reducible assumption); (case pZq => first | with_reducible assumption); (case UZq => k_upd); (case zZq => first | omega | ((simp only [List.length_append, List.length_take, List.length_drop, List.length_cons, List.length_nil, List.length_replicate, List.length_reverse]); omega)); k_whole); intro h' q' t' F' N'; (try k_sweep)) | ((with_reducible show wpAny _ _ (subscriptTail _ _ _ _) _ _ _); (show wpAny _ _ (subscriptTail _ _ (Value.ref _) (Value.int (-1) _)) _ _ _); k_dflt (refine' itemLast_Y ?NZq ?mZq ?iZq ?pZq ?zZq ?_ ?hsZq ?htZq; (case NZq => k_asm); (case mZq => (repeat (first | (with_reducible assumption) | (with_reducible exact List.mem_cons_self ..) | (with_reducible refine List.mem_cons_of_mem _ ?_)))); (case iZq => first | with_reducible assumption); (case pZq => first | with_reducible assumption); (case zZq => first | omega | ((simp only [List.length_append, List.length_take, List.length_drop, List.length_cons, List.length_nil, List.length_replicate, List.length_reverse]); omega)); (case hsZq => with_unfolding_all rfl); (case htZq => (intro _; with_unfolding_all rfl)); k_whole); intro q' t' hq'; (try have hsq' := small_last (by with_reducible assumption) hq')) | ((with_reducible show wpAny _ _ (truthy (Value.ref _)) _ _ _); k_dflt (refine' truthy_V ?NZq ?mZq ?lZq ?zZq ?_; (case NZq => k_asm); (case mZq => (repeat (first | (with_reducible assumption) | (with_reducible exact List.mem_cons_self ..) | (with_reducible refine List.mem_cons_of_mem _ ?_)))); (case lZq => exact bys_len (by first | with_reducible assumption)); (case zZq => first | omega | ((simp only [List.length_append, List.length_take, List.length_drop, List.length_cons, List.length_nil, List.length_replicate, List.length_reverse]); omega)); k_whole); intro tk') | ((with_reducible show wpAny _ _ (call (Value.builtin _) [Value.ref _, Value.bytes _ _]) _ _ _); k_dflt (refine' append_V ?FZq ?NZq ?UZq ?zZq ?_; (case FZq => k_asm); (case NZq => k_asm); (case UZq => k_upd); (case zZq => first | omega | ((rw [bys_len (by with_reducible assumption)]); (first | omega | ((simp only [List.length_append, List.length_take, List.length_drop, List.length_cons, List.length_nil, List.length_replicate, List.length_reverse]); omega)))); k_whole); intro h' F' N'; (try k_sweep)) | ((with_reducible show wpAny _ _ (compareOp CmpOp.NotEq (Value.bytes _ _) (Value.bytes _ _)) _ _ _); k_dflt (refine' ne_B ?hxZq ?hyZq ?h1Zq ?h2Zq ?_; (case hxZq => first | with_reducible rfl | with_reducible exact lit_slashB | with_reducible exact lit_dotB | with_reducible exact lit_ddB | with_reducible exact lit_nilB); (case hyZq => first | with_reducible rfl | with_reducible exact lit_slashB | with_reducible exact lit_dotB | with_reducible exact lit_ddB | with_reducible exact lit_nilB); (case h1Zq => first | with_reducible assumption | exact Small.sl (by with_reducible assumption) _ _ | (unfold Small; decide) | exact Small.rep (by decide) _); (case h2Zq => first | with_reducible assumption | exact Small.sl (by with_reducible assumption) _ _ | (unfold Small; decide) | exact Small.rep (by decide) _); k_whole)) | ((with_reducible show wpAny _ _ (compareOp CmpOp.Eq (Value.bytes _ _) (Value.bytes _ _)) _ _ _); k_dflt (refine' eq_B ?hxZq ?hyZq ?h1Zq ?h2Zq ?_; (case hxZq => first | with_reducible rfl | with_reducible exact lit_slashB | with_reducible exact lit_dotB | with_reducible exact lit_ddB | with_reducible exact lit_nilB); (case hyZq => first | with_reducible rfl | with_reducible exact lit_slashB | with_reducible exact lit_dotB | with_reducible exact lit_ddB | with_reducible exact lit_nilB); (case h1Zq => first | with_reducible assumption | exact Small.sl (by with_reducible assumption) _ _ | (unfold Small; decide)); (case h2Zq => first | with_reducible assumption | exact Small.sl (by with_reducible assumption) _ _ | (unfold Small; decide)); k_whole)) | ((with_reducible show wpAny _ _ (truthy (Value.bytes (mkB _) _)) _ _ _); k_dflt (refine' truthy_B ?hzZq ?_; (case hzZq => omega); k_whole))); k_steps))
      all_goals try rw [StopG.eq]
      all_goals ((refine' turn_end (σ := List Value × Nat) (_, _) ?F ?N ?hn ?hI ?hne ?hk ?hr ?hp); (case F => with_reducible assumption); (case N => with_reducible assumption); (case hn => exact List.forall_mem_cons.mpr ⟨by (repeat (first | (with_reducible assumption) | (with_reducible exact List.mem_cons_self ..) | (with_reducible refine List.mem_cons_of_mem _ ?_))), by intro p hp; k_ownIn⟩); (case hI => (repeat (first | (with_reducible assumption) | (with_reducible exact List.mem_cons_self ..) | (with_reducible refine List.mem_cons_of_mem _ ?_)))); (case hne => (simp only [List.forall_mem_cons]; exact ⟨n1, n3⟩)); (case hk => kst_all); (case hr => intro z h1 h2 h3; (simp only [List.forall_mem_cons, List.not_mem_nil, false_implies, implies_true, and_true, ne_eq] at h2); first | (simp only [kstB, h1, h2, List.contains_nil, if_false, Bool.false_eq_true, reduceIte]; done) | ((have h4 := h3); (simp only [List.contains_cons, List.contains_nil, Bool.or_false, Bool.or_eq_false_iff, beq_eq_false_iff_ne, ne_eq] at h4); (simp only [kstB, h1, h2, h3, h4, if_false, Bool.false_eq_true, reduceIte]; done))); (case hp =>
        refine ⟨nstep (rootL l) acc p, ?_, (fold_take hp hacc).symm⟩
        dsimp only
        first
          | (rw [nstep_a (by first | with_reducible assumption | exact Decidable.not_not.mp (by with_reducible assumption) | exact not_not_intro (by with_reducible assumption))]; exact hA)
          | (rw [nstep_a' (by first | with_reducible assumption | exact Decidable.not_not.mp (by with_reducible assumption) | exact not_not_intro (by with_reducible assumption))]; exact hA)
          | (rw [nstep_b (by first | with_reducible assumption | exact Decidable.not_not.mp (by with_reducible assumption) | exact not_not_intro (by with_reducible assumption))]; exact hA)
          | (rw [nstep_c (by first | with_reducible assumption | exact Decidable.not_not.mp (by with_reducible assumption) | exact not_not_intro (by with_reducible assumption)) (by first | with_reducible assumption | exact Decidable.not_not.mp (by with_reducible assumption) | exact not_not_intro (by with_reducible assumption)) (by first | with_reducible assumption | exact Decidable.not_not.mp (by with_reducible assumption) | exact not_not_intro (by with_reducible assumption))]; exact bys_snoc hA)
          | (rw [nstep_d (by first | with_reducible assumption | exact Decidable.not_not.mp (by with_reducible assumption) | exact not_not_intro (by with_reducible assumption)) (by first | with_reducible assumption | exact Decidable.not_not.mp (by with_reducible assumption) | exact not_not_intro (by with_reducible assumption)) (by first | with_reducible assumption | exact Decidable.not_not.mp (by with_reducible assumption) | exact not_not_intro (by with_reducible assumption)) (by first | with_reducible assumption | exact Decidable.not_not.mp (by with_reducible assumption) | exact not_not_intro (by with_reducible assumption))]; exact bys_snoc hA)
          | (rw [nstep_e (by first | with_reducible assumption | exact Decidable.not_not.mp (by with_reducible assumption) | exact not_not_intro (by with_reducible assumption)) (by first | with_reducible assumption | exact Decidable.not_not.mp (by with_reducible assumption) | exact not_not_intro (by with_reducible assumption)) (by first | with_reducible assumption | exact Decidable.not_not.mp (by with_reducible assumption) | exact not_not_intro (by with_reducible assumption)) (by first | with_reducible assumption | exact Decidable.not_not.mp (by with_reducible assumption) | exact not_not_intro (by with_reducible assumption))]; exact bys_snoc hA)
          | (rw [nstep_f (by first | with_reducible assumption | exact Decidable.not_not.mp (by with_reducible assumption) | exact not_not_intro (by with_reducible assumption)) (by first | with_reducible assumption | exact Decidable.not_not.mp (by with_reducible assumption) | exact not_not_intro (by with_reducible assumption)) (by first | with_reducible assumption | exact Decidable.not_not.mp (by with_reducible assumption) | exact not_not_intro (by with_reducible assumption)) (by first | with_reducible assumption | exact Decidable.not_not.mp (by with_reducible assumption) | exact not_not_intro (by with_reducible assumption)) (by first | with_reducible assumption | exact Decidable.not_not.mp (by with_reducible assumption) | exact not_not_intro (by with_reducible assumption))]; exact bys_dropLast hA)
          | (rw [nstep_g (by first | with_reducible assumption | exact Decidable.not_not.mp (by with_reducible assumption) | exact not_not_intro (by with_reducible assumption)) (by first | with_reducible assumption | exact Decidable.not_not.mp (by with_reducible assumption) | exact not_not_intro (by with_reducible assumption)) (by first | with_reducible assumption | exact Decidable.not_not.mp (by with_reducible assumption) | exact not_not_intro (by with_reducible assumption)) (by first | with_reducible assumption | exact Decidable.not_not.mp (by with_reducible assumption) | exact not_not_intro (by with_reducible assumption)) (by first | with_reducible assumption | exact Decidable.not_not.mp (by with_reducible assumption) | exact not_not_intro (by with_reducible assumption))]; exact hA)))
    case done =>
      rintro ⟨ws, n⟩ u h tk ⟨acc, hA, hacc⟩ F' N'
      dsimp only at *
      have hus := bys_len hS
      have hac : acc = ncomps l := by rw [hacc, hus, List.take_length]; rfl
      subst hac
      have hw := ncomps_wt l
      have hw2 : wt (ncomps l) ≤ 16384 := by omega
      have hw3 := wt_join 47 (ncomps l)
      have hrl := rootL_length l
      have hw4 : (rootL l ++ joinL [47] (ncomps l)).length ≤ 2010 := by rw [List.length_append]; omega
      have hsj := small_norm hs
      (k_steps; repeat' ((with_reducible refine Stop.un ?_); (first | ((with_reducible show wpAny _ _ (call (Value.builtin _) [Value.bytes _ _, Value.ref _]) _ _ _); k_dflt (refine' join_B ?NZq ?yZq ?mZq ?iZq ?zZq ?_; (case NZq => k_asm); (case yZq => first | with_reducible exact lit_slashB | exact rfl); (case mZq => (repeat (first | (with_reducible assumption) | (with_reducible exact List.mem_cons_self ..) | (with_reducible refine List.mem_cons_of_mem _ ?_)))); (case iZq => first | with_reducible assumption); (case zZq => first | with_reducible assumption | omega); k_whole); intro t' tk') | ((with_reducible show wpAny _ _ (binaryOp Operator.Add (Value.bytes _ _) (Value.bytes (mkB _) _)) _ _ _); k_dflt (refine' add_B ?hxZq ?hyZq ?hzZq ?h2Zq ?_; (case hxZq => first | with_reducible rfl | exact rfl); (case hyZq => with_reducible rfl); (case hzZq => first | omega | ((simp only [List.length_append, List.length_take, List.length_drop, List.length_cons, List.length_nil, List.length_replicate, List.length_reverse]); omega)); (case h2Zq => first | omega | (exact Nat.le_trans (by with_reducible assumption) (by omega))); k_whole); intro t' tk') | ((with_reducible show wpAny _ _ (truthy (Value.bytes (mkB _) _)) _ _ _); k_dflt (refine' truthy_B ?hzZq ?_; (case hzZq => omega); k_whole))); k_steps))
      all_goals ((refine' hret [] _ _ _ ⟨rfl, _, _, rfl, ?hy⟩ no_led ?F (cb_drop ?N ?sub)); (case F => with_reducible assumption); (case N => with_reducible assumption); (case sub => (intro p hp; k_ownIn)); (case hy =>
        unfold normL
        first
          | rw [if_neg (by first | with_reducible assumption | exact Decidable.not_not.mp (by with_reducible assumption) | exact not_not_intro (by with_reducible assumption)), if_neg (by first | with_reducible assumption | exact Decidable.not_not.mp (by with_reducible assumption) | exact not_not_intro (by with_reducible assumption))]
          | (rw [if_neg (by first | with_reducible assumption | exact Decidable.not_not.mp (by with_reducible assumption) | exact not_not_intro (by with_reducible assumption)), if_pos (Decidable.not_not.mp (by first | with_reducible assumption | exact Decidable.not_not.mp (by with_reducible assumption) | exact not_not_intro (by with_reducible assumption)))]; exact lit_dotB)
          | (rw [if_neg (by first | with_reducible assumption | exact Decidable.not_not.mp (by with_reducible assumption) | exact not_not_intro (by with_reducible assumption)), if_pos (by first | with_reducible assumption | exact Decidable.not_not.mp (by with_reducible assumption) | exact not_not_intro (by with_reducible assumption))]; exact lit_dotB)))
  · (refine' hret [] _ _ _ ⟨rfl, _, _, rfl, ?hy⟩ no_led ?F (cb_drop ?N ?sub)); (case F => with_reducible assumption); (case N => with_reducible assumption); (case sub => (intro p hp; k_ownIn)); (case hy =>
      unfold normL
      first
        | (rw [if_pos (Decidable.not_not.mp (by first | with_reducible assumption | exact Decidable.not_not.mp (by with_reducible assumption) | exact not_not_intro (by with_reducible assumption)))]; exact lit_dotB)
        | (rw [if_pos (by first | with_reducible assumption | exact Decidable.not_not.mp (by with_reducible assumption) | exact not_not_intro (by with_reducible assumption))]; exact lit_dotB))
end
section
set_option maxRecDepth 100000 in
set_option maxHeartbeats 100000000 in
theorem splitextU_S (news : List (Addr × Obj)) (l : List Nat) (t u u2 : Tok) (hz : l.length ≤ 4096) : Spec PySem.Challenge.rw_ko0129_02.row.prog Mine.hd.view_39 Mine.hd.heap_39 108 8 60 [.str (mkS l) t, .str (mkS [47]) u, .none, .str (mkS [46]) u2] news (fun led v => ∃ (q : Addr) (t1 : Tok) (t2 : Tok) (x1 x2 : List Nat), v = .ref q ∧ led = [(q, tupO [.str (mkS x1) t1, .str (mkS x2) t2])] ∧ x1 = l.take (extK l) ∧ x2 = l.drop (extK l)) := by
  w_top off
  unfold Spec
  intros
  rename_i hret
  refine wpAny_call ?_
  k_dflt cell_enter
  (k_steps; repeat' ((with_reducible refine Stop.un ?_); (first | ((with_reducible show wpAny _ _ (subscriptTail _ (Expr.Slice _ _ none _) (Value.str (mkS _) _) (Value.ref _)) _ _ _); (with_reducible rename Fr _ _ _ _ => F'); (with_reducible rename News _ _ _ _ => N'); k_dflt (refine' slice_S (s := ⟨_, _, _, _, _⟩) F' N' ?h1Zq ?h2Zq ?hzZq ?_; (case h1Zq => constructor); (case h2Zq => constructor); (case hzZq => omega); k_whole); intro h' t' tk' F' N' hlen'; (try k_sweep)) | ((with_reducible show wpAny _ _ (call (Value.builtin _) [Value.str (mkS _) _, Value.str _ _]) _ _ _); k_dflt (refine' rfind_S ?hyZq ?_; (case hyZq => first | with_reducible rfl | with_reducible exact lit_slash | with_reducible exact lit_dot); k_whole))); k_steps))
  · unfold Stop
    refine ksw_while (σ := Int × Nat) (fun _ => news) (fun c => [(Str.ofString "filenameIndex", .int c.1 c.2)]) (fun _ => True) [] (fun c => ∃ k : Nat, c.1 = (k : Int) ∧ cutL 47 l ≤ k ∧ k + 1 ≤ cutL 46 l ∧ (((l.take k).drop (cutL 47 l)).any (fun c => c != 46)) = false) (fun c => cutL 46 l - c.1.toNat) (_, _) (by assumption) (by assumption) trivial (by kst_all) ?_ ?_
    · refine ⟨cutL 47 l, ?_, Nat.le_refl _, ?_, ?_⟩
      · dsimp only; omega
      · omega
      · rw [List.drop_of_length_le (by rw [List.length_take]; omega)]; rfl
    · rintro ⟨i, t9⟩ u9 h9 tk9 _ ⟨k, hk0, hk1, hk2, hk3⟩ F' N'
      dsimp only at *
      subst hk0
      (k_steps; repeat' ((with_reducible refine Stop.un ?_); (first | ((with_reducible show wpAny _ _ (subscriptTail _ (Expr.Slice _ _ none _) (Value.str (mkS _) _) (Value.ref _)) _ _ _); (with_reducible rename Fr _ _ _ _ => F'); (with_reducible rename News _ _ _ _ => N'); k_dflt (refine' slice_S (s := ⟨_, _, _, _, _⟩) F' N' ?h1Zq ?h2Zq ?hzZq ?_; (case h1Zq => constructor); (case h2Zq => constructor); (case hzZq => omega); k_whole); intro h' t' tk' F' N' hlen'; (try k_sweep)) | ((with_reducible show wpAny _ _ (compareOp CmpOp.NotEq (Value.str _ _) (Value.str _ _)) _ _ _); k_dflt (refine' ne_S ?hxZq ?hyZq ?_; (case hxZq => first | with_reducible rfl | with_reducible exact lit_slash | with_reducible exact lit_dot | with_reducible exact lit_dd | with_reducible exact lit_nil); (case hyZq => first | with_reducible rfl | with_reducible exact lit_slash | with_reducible exact lit_dot | with_reducible exact lit_dd | with_reducible exact lit_nil); k_whole))); k_steps))
      · (refine hret_one hret (by assumption) (by assumption) ⟨_, _, _, _, _, rfl, rfl, ?_, ?_⟩ (by first | assumption | exact allLt_mem (by assumption) | exact allLt_mem (And.right (by assumption)) | exact allLt_mem (And.right (And.right (by assumption))) | exact allLt_mem (And.right (And.right (And.right (by assumption))))) (by intro p hp; k_ownIn))
        · rw [(ext_yes hk1 hk2 (by assumption) (by assumption)).2, pySl_to]
        · rw [(ext_yes hk1 hk2 (by assumption) (by assumption)).2, pySl_from]
      · rename_i hx
        have hk4 : (k : Int) < (cutL 46 l : Int) - 1 := by assumption
        rw [StopG.eq]
        refine ksw_end (σ := Int × Nat) (_, _) (by assumption) (by assumption) (fun p hp => hp) trivial (by kst_all) (by intro z h2 h3; (simp only [List.forall_mem_cons, List.not_mem_nil, false_implies, implies_true, and_true, ne_eq] at h2); first | (simp only [kstB, h2, List.contains_nil, if_false, Bool.false_eq_true, reduceIte]; done) | ((have h4 := h3); (simp only [List.contains_cons, List.contains_nil, Bool.or_false, Bool.or_eq_false_iff, beq_eq_false_iff_ne, ne_eq] at h4); (simp only [kstB, h2, h3, h4, if_false, Bool.false_eq_true, reduceIte]; done))) ⟨k + 1, ?_, ?_, ?_, ?_⟩ ?_
        · dsimp only; omega
        · omega
        · omega
        · exact any_step hk1 hk3 (by rw [← sl_one]; exact Decidable.not_not.mp (by assumption))
        · dsimp only; omega
      · have hk4 : k = cutL 46 l - 1 := by omega
        subst hk4
        (refine hret_one hret (by assumption) (by assumption) ⟨_, _, _, _, _, rfl, rfl, ?_, ?_⟩ (by first | assumption | exact allLt_mem (by assumption) | exact allLt_mem (And.right (by assumption)) | exact allLt_mem (And.right (And.right (by assumption))) | exact allLt_mem (And.right (And.right (And.right (by assumption))))) (by intro p hp; k_ownIn))
        · exact (ext_all (ext_no hk3)).1
        · exact (ext_all (ext_no hk3)).2
  · (refine hret_one hret (by assumption) (by assumption) ⟨_, _, _, _, _, rfl, rfl, ?_, ?_⟩ (by first | assumption | exact allLt_mem (by assumption) | exact allLt_mem (And.right (by assumption)) | exact allLt_mem (And.right (And.right (by assumption))) | exact allLt_mem (And.right (And.right (And.right (by assumption))))) (by intro p hp; k_ownIn))
    · exact (ext_all (ext_no2 (by assumption))).1
    · exact (ext_all (ext_no2 (by assumption))).2
set_option maxRecDepth 100000 in
set_option maxHeartbeats 100000000 in
theorem splitext_S (news : List (Addr × Obj)) (l : List Nat) (t : Tok) (hz : l.length ≤ 4096) : Spec PySem.Challenge.rw_ko0129_02.row.prog Mine.hd.view_39 Mine.hd.heap_39 115 16 90 [.str (mkS l) t] news (fun led v => ∃ (q : Addr) (t1 : Tok) (t2 : Tok) (x1 x2 : List Nat), v = .ref q ∧ led = [(q, tupO [.str (mkS x1) t1, .str (mkS x2) t2])] ∧ x1 = l.take (extK l) ∧ x2 = l.drop (extK l)) := by
  w_top off
  unfold Spec
  intros
  rename_i hret
  refine wpAny_call ?_
  k_dflt cell_enter
  (k_steps; repeat' ((with_reducible refine Stop.un ?_); (first | ((with_reducible show wpAny _ _ (call (Value.ref 108) [Value.str (mkS _) _, Value.str (mkS _) _, Value.none, Value.str (mkS _) _]) _ _ _); k_dflt (refine' Spec.use2 (by k_asm) (by k_asm) (by k_asm) (by k_asm) (by k_asm) (by first | exact rfl | assumption) (splitextU_S _ _ _ _ _ ?p1Zq) (by ktr_room) (by ktr_units) ?_; (case p1Zq => omega); k_whole); intro led' v' h' tk' hR' hfr' F' N'; (obtain ⟨q', t1', t2', x1', x2', hV', hL', hX', hY'⟩ := hR'); subst hV' hL' hX' hY'; (have hfr2 := hfr' _ (List.Mem.head _)); (try k_lt hfr2); (try simp only [List.nil_append, List.cons_append] at F' N'); (try clear hfr'); k_sweep) | ((with_reducible show wpAny _ _ (call (Value.ref 108) [Value.str (mkS _) _, Value.str (Str.ofString _) _, Value.none, Value.str (Str.ofString _) _]) _ _ _); rw [lit_slash, lit_dot]) | ((with_reducible show wpAny _ _ (call (Value.ref 101) [Value.str (mkS _) _]) _ _ _); k_dflt (refine' Spec.use2 (by k_asm) (by k_asm) (by k_asm) (by k_asm) (by k_asm) (by first | exact rfl | assumption) (fspath_S _ _ _) (by ktr_room) (by ktr_units) ?_; k_whole); intro led' v' h' tk' hR' hfr' F' N'; (obtain ⟨hL', hV'⟩ := hR'); subst hL' hV'; (try simp only [List.nil_append, List.cons_append] at F' N'); (try clear hfr'); k_sweep)); k_steps))
  all_goals exact hret_one hret (by assumption) (by assumption) ⟨_, _, _, _, _, rfl, rfl, rfl, rfl⟩ (by first | assumption | exact allLt_mem (by assumption) | exact allLt_mem (And.right (by assumption)) | exact allLt_mem (And.right (And.right (by assumption))) | exact allLt_mem (And.right (And.right (And.right (by assumption))))) (by intro p hp; k_ownIn)
set_option maxRecDepth 100000 in
set_option maxHeartbeats 100000000 in
theorem splitextU_B (news : List (Addr × Obj)) (l : List Nat) (t u u2 : Tok) (hz : l.length ≤ 4096) (hs : Small l) : Spec PySem.Challenge.rw_ko0129_02.row.prog Mine.hd.view_39 Mine.hd.heap_39 108 8 60 [.bytes (mkB l) t, .bytes (mkB [47]) u, .none, .bytes (mkB [46]) u2] news (fun led v => ∃ (q : Addr) (t1 : Tok) (t2 : Tok) (x1 x2 : List Nat), v = .ref q ∧ led = [(q, tupO [.bytes (mkB x1) t1, .bytes (mkB x2) t2])] ∧ x1 = l.take (extK l) ∧ x2 = l.drop (extK l)) := by
  w_top off
  unfold Spec
  intros
  rename_i hret
  refine wpAny_call ?_
  k_dflt cell_enter
  (k_steps; repeat' ((with_reducible refine Stop.un ?_); (first | ((with_reducible show wpAny _ _ (subscriptTail _ (Expr.Slice _ _ none _) (Value.bytes (mkB _) _) (Value.ref _)) _ _ _); (with_reducible rename Fr _ _ _ _ => F'); (with_reducible rename News _ _ _ _ => N'); k_dflt (refine' slice_B (s := ⟨_, _, _, _, _⟩) F' N' ?h1Zq ?h2Zq ?hzZq ?_; (case h1Zq => constructor); (case h2Zq => constructor); (case hzZq => omega); k_whole); intro h' t' tk' F' N' hlen'; (try k_sweep)) | ((with_reducible show wpAny _ _ (call (Value.builtin _) [Value.bytes (mkB _) _, Value.bytes _ _]) _ _ _); k_dflt (refine' rfind_B ?hsZq ?hyZq ?hcZq ?_; (case hsZq => with_reducible assumption); (case hyZq => exact rfl); (case hcZq => decide); k_whole))); k_steps))
  · unfold Stop
    refine ksw_while (σ := Int × Nat) (fun _ => news) (fun c => [(Str.ofString "filenameIndex", .int c.1 c.2)]) (fun _ => True) [] (fun c => ∃ k : Nat, c.1 = (k : Int) ∧ cutL 47 l ≤ k ∧ k + 1 ≤ cutL 46 l ∧ (((l.take k).drop (cutL 47 l)).any (fun c => c != 46)) = false) (fun c => cutL 46 l - c.1.toNat) (_, _) (by assumption) (by assumption) trivial (by kst_all) ?_ ?_
    · refine ⟨cutL 47 l, ?_, Nat.le_refl _, ?_, ?_⟩
      · dsimp only; omega
      · omega
      · rw [List.drop_of_length_le (by rw [List.length_take]; omega)]; rfl
    · rintro ⟨i, t9⟩ u9 h9 tk9 _ ⟨k, hk0, hk1, hk2, hk3⟩ F' N'
      dsimp only at *
      subst hk0
      (k_steps; repeat' ((with_reducible refine Stop.un ?_); (first | ((with_reducible show wpAny _ _ (subscriptTail _ (Expr.Slice _ _ none _) (Value.bytes (mkB _) _) (Value.ref _)) _ _ _); (with_reducible rename Fr _ _ _ _ => F'); (with_reducible rename News _ _ _ _ => N'); k_dflt (refine' slice_B (s := ⟨_, _, _, _, _⟩) F' N' ?h1Zq ?h2Zq ?hzZq ?_; (case h1Zq => constructor); (case h2Zq => constructor); (case hzZq => omega); k_whole); intro h' t' tk' F' N' hlen'; (try k_sweep)) | ((with_reducible show wpAny _ _ (compareOp CmpOp.NotEq (Value.bytes _ _) (Value.bytes _ _)) _ _ _); k_dflt (refine' ne_B ?hxZq ?hyZq ?h1Zq ?h2Zq ?_; (case hxZq => first | with_reducible rfl | with_reducible exact lit_slashB | with_reducible exact lit_dotB | with_reducible exact lit_ddB | with_reducible exact lit_nilB); (case hyZq => first | with_reducible rfl | with_reducible exact lit_slashB | with_reducible exact lit_dotB | with_reducible exact lit_ddB | with_reducible exact lit_nilB); (case h1Zq => first | with_reducible assumption | exact Small.sl (by with_reducible assumption) _ _ | (unfold Small; decide) | exact Small.rep (by decide) _); (case h2Zq => first | with_reducible assumption | exact Small.sl (by with_reducible assumption) _ _ | (unfold Small; decide) | exact Small.rep (by decide) _); k_whole))); k_steps))
      · (refine hret_one hret (by assumption) (by assumption) ⟨_, _, _, _, _, rfl, rfl, ?_, ?_⟩ (by first | assumption | exact allLt_mem (by assumption) | exact allLt_mem (And.right (by assumption)) | exact allLt_mem (And.right (And.right (by assumption))) | exact allLt_mem (And.right (And.right (And.right (by assumption))))) (by intro p hp; k_ownIn))
        · rw [(ext_yes hk1 hk2 (by assumption) (by assumption)).2, pySl_to]
        · rw [(ext_yes hk1 hk2 (by assumption) (by assumption)).2, pySl_from]
      · rename_i hx
        have hk4 : (k : Int) < (cutL 46 l : Int) - 1 := by assumption
        rw [StopG.eq]
        refine ksw_end (σ := Int × Nat) (_, _) (by assumption) (by assumption) (fun p hp => hp) trivial (by kst_all) (by intro z h2 h3; (simp only [List.forall_mem_cons, List.not_mem_nil, false_implies, implies_true, and_true, ne_eq] at h2); first | (simp only [kstB, h2, List.contains_nil, if_false, Bool.false_eq_true, reduceIte]; done) | ((have h4 := h3); (simp only [List.contains_cons, List.contains_nil, Bool.or_false, Bool.or_eq_false_iff, beq_eq_false_iff_ne, ne_eq] at h4); (simp only [kstB, h2, h3, h4, if_false, Bool.false_eq_true, reduceIte]; done))) ⟨k + 1, ?_, ?_, ?_, ?_⟩ ?_
        · dsimp only; omega
        · omega
        · omega
        · exact any_step hk1 hk3 (by rw [← sl_one]; exact Decidable.not_not.mp (by assumption))
        · dsimp only; omega
      · have hk4 : k = cutL 46 l - 1 := by omega
        subst hk4
        (refine hret_one hret (by assumption) (by assumption) ⟨_, _, _, _, _, rfl, rfl, ?_, ?_⟩ (by first | assumption | exact allLt_mem (by assumption) | exact allLt_mem (And.right (by assumption)) | exact allLt_mem (And.right (And.right (by assumption))) | exact allLt_mem (And.right (And.right (And.right (by assumption))))) (by intro p hp; k_ownIn))
        · exact (ext_all (ext_no hk3)).1
        · exact (ext_all (ext_no hk3)).2
  · (refine hret_one hret (by assumption) (by assumption) ⟨_, _, _, _, _, rfl, rfl, ?_, ?_⟩ (by first | assumption | exact allLt_mem (by assumption) | exact allLt_mem (And.right (by assumption)) | exact allLt_mem (And.right (And.right (by assumption))) | exact allLt_mem (And.right (And.right (And.right (by assumption))))) (by intro p hp; k_ownIn))
    · exact (ext_all (ext_no2 (by assumption))).1
    · exact (ext_all (ext_no2 (by assumption))).2
set_option maxRecDepth 100000 in
set_option maxHeartbeats 100000000 in
theorem splitext_B (news : List (Addr × Obj)) (l : List Nat) (t : Tok) (hz : l.length ≤ 4096) (hs : Small l) : Spec PySem.Challenge.rw_ko0129_02.row.prog Mine.hd.view_39 Mine.hd.heap_39 115 16 90 [.bytes (mkB l) t] news (fun led v => ∃ (q : Addr) (t1 : Tok) (t2 : Tok) (x1 x2 : List Nat), v = .ref q ∧ led = [(q, tupO [.bytes (mkB x1) t1, .bytes (mkB x2) t2])] ∧ x1 = l.take (extK l) ∧ x2 = l.drop (extK l)) := by
  w_top off
  unfold Spec
  intros
  rename_i hret
  refine wpAny_call ?_
  k_dflt cell_enter
  (k_steps; repeat' ((with_reducible refine Stop.un ?_); (first | ((with_reducible show wpAny _ _ (call (Value.ref 108) [Value.bytes (mkB _) _, Value.bytes (mkB _) _, Value.none, Value.bytes (mkB _) _]) _ _ _); k_dflt (refine' Spec.use2 (by k_asm) (by k_asm) (by k_asm) (by k_asm) (by k_asm) (by first | exact rfl | assumption) (splitextU_B _ _ _ _ _ ?p1Zq ?p2Zq) (by ktr_room) (by ktr_units) ?_; (case p1Zq => omega); (case p2Zq => first | with_reducible assumption | with_reducible exact Small.sl (by with_reducible assumption) _ _ | with_reducible exact Small.head (by with_reducible assumption) | with_reducible exact Small.tl (by with_reducible assumption) | with_reducible exact Small.nil | with_reducible exact Small.one (by decide) | (unfold Small; decide)); k_whole); intro led' v' h' tk' hR' hfr' F' N'; (obtain ⟨q', t1', t2', x1', x2', hV', hL', hX', hY'⟩ := hR'); subst hV' hL' hX' hY'; (have hfr2 := hfr' _ (List.Mem.head _)); (try k_lt hfr2); (try simp only [List.nil_append, List.cons_append] at F' N'); (try clear hfr'); k_sweep) | ((with_reducible show wpAny _ _ (call (Value.ref 108) [Value.bytes (mkB _) _, Value.bytes (List.toArray _) _, Value.none, Value.bytes (List.toArray _) _]) _ _ _); rw [lit_slashB, lit_dotB]) | ((with_reducible show wpAny _ _ (call (Value.ref 101) [Value.bytes (mkB _) _]) _ _ _); k_dflt (refine' Spec.use2 (by k_asm) (by k_asm) (by k_asm) (by k_asm) (by k_asm) (by first | exact rfl | assumption) (fspath_B _ _ _) (by ktr_room) (by ktr_units) ?_; k_whole); intro led' v' h' tk' hR' hfr' F' N'; (obtain ⟨hL', hV'⟩ := hR'); subst hL' hV'; (try simp only [List.nil_append, List.cons_append] at F' N'); (try clear hfr'); k_sweep)); k_steps))
  all_goals exact hret_one hret (by assumption) (by assumption) ⟨_, _, _, _, _, rfl, rfl, rfl, rfl⟩ (by first | assumption | exact allLt_mem (by assumption) | exact allLt_mem (And.right (by assumption)) | exact allLt_mem (And.right (And.right (by assumption))) | exact allLt_mem (And.right (And.right (And.right (by assumption))))) (by intro p hp; k_ownIn)
end
section
local macro_rules | `(tactic| walk_at "subscriptTail") => `(tactic| (k_here; (with_reducible show wpAny _ _ (subscriptTail _ _ (Value.ref _) (Value.int (Int.fmod _ 6) _)) _ _ _); refine Stop.of ?_))
set_option maxRecDepth 100000 in
set_option maxHeartbeats 100000000 in
theorem part_ok (news : List (Addr × Obj)) (x : Int) (t : Tok) (h0 : 0 ≤ x) : Spec PySem.Challenge.rw_ko0129_02.row.prog Mine.hd.view_39 Mine.hd.heap_39 139 6 40 [.int x t] news (fun led v => led = [] ∧ ∃ p t, v = .str (mkS p) t ∧ p.length ≤ 3 ∧ Small p) := by
  w_top off
  unfold Spec
  intros
  rename_i hret
  refine wpAny_call ?_
  k_dflt cell_enter
  (k_steps; repeat' ((with_reducible refine Stop.un ?_); (first | ((with_reducible show wpAny _ _ (call (Value.builtin "chr") [Value.int (Int.fmod _ 256) _]) _ _ _); k_dflt (refine' chr_of_range ?h0Zq ?h1Zq ?_; (case h0Zq => exact (chr_bd _).1); (case h1Zq => exact (chr_bd _).2); k_whole)) | ((with_reducible show wpAny _ _ (subscriptTail _ _ (Value.ref _) (Value.int (Int.fmod _ 6) _)) _ _ _); k_dflt (refine kba_turn (value' := PySem.Expr.Name (PySem.Str.ofString "_") ⟨0, 0, 0, 0⟩) (fun _ => rfl) ?_; refine' itemAt_T ?NZq ?mZq ?iZq ?h0Zq ?h1Zq ?zZq ?_ ?hsZq ?htZq; (case NZq => k_asm); (case mZq => (repeat (first | (with_reducible assumption) | (with_reducible exact List.mem_cons_self ..) | (with_reducible refine List.mem_cons_of_mem _ ?_)))); (case iZq => exact strs_menu5 _ _ _ _ _); (case h0Zq => exact Int.fmod_nonneg_of_pos _ (by decide)); (case h1Zq => exact fmod5 (by first | assumption | omega)); (case zZq => decide); (case hsZq => with_unfolding_all rfl); (case htZq => (intro _; with_unfolding_all rfl)); k_whole); intro q' t' hq'; (have hm' := menu5_small hq'))); k_steps))
  · exact hret [] _ _ _ ⟨rfl, [_], _, rfl, (show 1 ≤ 3 by decide), small_chr _⟩ no_led (by k_asm) (cb_drop (by assumption) (by intro p hp; k_ownIn))
  all_goals exact hret [] _ _ _ ⟨rfl, _, _, rfl, (And.left (by assumption)), (And.right (by assumption))⟩ no_led (by k_asm) (cb_drop (by assumption) (by intro p hp; k_ownIn))
end
section
set_option maxRecDepth 100000 in
set_option maxHeartbeats 100000000 in
theorem text_ok (news : List (Addr × Obj)) (l : Addr) (vs : List Value) (ns : List Int) (hi : IntsAre vs ns) (hn : ns.length ≤ 63) : SpecP PySem.Challenge.rw_ko0129_02.row.prog Mine.hd.view_39 Mine.hd.heap_39 146 14 120 [.ref l] news (fun h => h.IsList l vs.toArray) (fun led v => led = [] ∧ ∃ (l : List Nat) (t : Tok), v = .str (mkS l) t ∧ l.length ≤ 6 * ns.length ∧ Small l) := by
  w_top off
  unfold SpecP
  intros
  rename_i hpre hret
  refine wpAny_call ?_
  k_dflt cell_enter
  k_steps
  refine Stop.un ?_
  refine For_invVF (by assumption) rfl rfl ?_
  k_steps
  refine Stop.un ?_
  refine' for_list (σ := Str × Nat) (fun c => news) (fun c => [(Str.ofString "text", .str c.1 c.2)]) [Str.ofString "n"] (fun i c => ∃ lc, c.1 = mkS lc ∧ lc.length ≤ 6 * i ∧ Small lc) (_, _) rfl ?h1 ?h2 ?h3 ?h4 ?h5 ?h6 ?turn ?done
  case h4 => exact cb_drop (by assumption) (by intro p hp; k_ownIn)
  case h3 => assumption
  case h1 => exact list_up (list_up hpre (Fr.keep (by assumption))) (Fr.keep (by assumption))
  case h2 => exact .inl ((list_up hpre (Fr.keep (by assumption))).imp fun _ x => x.1)
  case h5 => kst_all
  case h6 => exact ⟨[], lit_nil, Nat.zero_le _, Small.nil⟩
  case turn =>
    rintro ⟨c, tc⟩ i v u h tk I oI hi' hv ⟨lc, hlc, hle, hsm⟩ hne F' N'
    dsimp only at *
    subst hlc
    obtain ⟨x0, t9, hx0, rfl⟩ := ints_at hi hv
    have hvl := hi.length
    (k_steps; repeat' ((with_reducible refine Stop.un ?_); (first | ((with_reducible show wpAny _ _ (inplaceOp Operator.Add (Value.str (mkS _) _) (Value.str (mkS _) _)) _ _ _); k_dflt (refine' iadd_S ?hzZq ?_; (case hzZq => first | omega | ((simp only [List.length_append, List.length_take, List.length_drop, List.length_cons, List.length_nil, List.length_replicate, List.length_reverse]); omega)); k_whole); intro t' tk') | ((with_reducible show wpAny _ _ (call (Value.ref 139) [Value.int _ _]) _ _ _); k_dflt (refine' Spec.use2 (by k_asm) (by k_asm) (by k_asm) (by k_asm) (by k_asm) (by first | exact rfl | assumption) (part_ok _ _ _ ?p1Zq) (by ktr_room) (by ktr_units) ?_; (case p1Zq => first | exact abs_nonneg _ | exact Int.fdiv_nonneg (abs_nonneg _) (by decide)); k_whole); intro led' v' h' tk' hR' hfr' F' N'; (obtain ⟨hL', x', t', hV', hX', hY'⟩ := hR'); subst hL' hV'; (try simp only [List.nil_append, List.cons_append] at F' N'); (try clear hfr'); k_sweep)); k_steps))
    all_goals rw [StopG.eq]
    all_goals
      ((with_reducible refine' turn_end (σ := Str × Nat) (_, _) ?F ?N ?hn ?hI ?hne ?hk ?hr ?hp)
       (case F => assumption)
       (case N => assumption)
       (case hk => kst_all)
       (case hn => exact (by intro p hp; k_ownIn))
       (case hI => k_memK)
       (case hne => exact hne)
       (case hr => intro z h1 h2 h3; (simp only [List.forall_mem_cons, List.not_mem_nil, false_implies, implies_true, and_true, ne_eq] at h2); first | (simp only [kstB, h1, h2, List.contains_nil, if_false, Bool.false_eq_true, reduceIte]; done) | ((have h4 := h3); (simp only [List.contains_cons, List.contains_nil, Bool.or_false, Bool.or_eq_false_iff, beq_eq_false_iff_ne, ne_eq] at h4); (simp only [kstB, h1, h2, h3, h4, if_false, Bool.false_eq_true, reduceIte]; done)))
       (case hp => first
         | exact ⟨_, rfl, by simp only [List.length_append]; omega, (hsm.append (by assumption)).append (by assumption)⟩
         | exact ⟨_, rfl, by simp only [List.length_append]; omega, hsm.append (by assumption)⟩))
  case done =>
    rintro ⟨c, tc⟩ u h tk ⟨lc, hlc, hle, hsm⟩ F' N'
    dsimp only at *
    subst hlc
    have hvl := hi.length
    k_steps
    exact hret [] _ _ _ ⟨rfl, _, _, rfl, by omega, hsm⟩ no_led (by k_asm) (cb_drop (by assumption) (by intro p hp; k_ownIn))
end
set_option maxRecDepth 100000 in
set_option maxHeartbeats 100000000 in
theorem madeT_ok (news : List (Addr × Obj)) (l : List Nat) (t : Tok) : Spec PySem.Challenge.rw_ko0129_02.row.prog Mine.hd.view_39 Mine.hd.heap_39 151 6 60 [.str (mkS l) t, .bool false] news (fun led v => led = [] ∧ ∃ t, v = .str (mkS l) t) := by
  w_top off
  unfold Spec
  intros
  rename_i hret
  refine wpAny_call ?_
  k_dflt cell_enter
  k_steps
  exact hret [] _ _ _ ⟨rfl, _, rfl⟩ no_led (by k_asm) (cb_drop (by assumption) (by intro p hp; k_ownIn))
set_option maxRecDepth 100000 in
set_option maxHeartbeats 100000000 in
theorem madeO_ok (news : List (Addr × Obj)) (l : List Nat) (t : Tok) (hz : l.length ≤ 4096) (hs : Small l) : Spec PySem.Challenge.rw_ko0129_02.row.prog Mine.hd.view_39 Mine.hd.heap_39 151 6 60 [.str (mkS l) t, .bool true] news (fun led v => led = [] ∧ ∃ t, v = .bytes (mkB l) t) := by
  w_top off
  unfold Spec
  intros
  rename_i hret
  refine wpAny_call ?_
  k_dflt cell_enter
  k_steps
  refine Stop.un ?_
  refine' comp_signs (fun _ => true) (fun c => PyData.int (c : Int)) (by assumption) ?hh ?hclos ?hcell ?hkind ?hnames ?hx ?hs ?h
  case hh => with_unfolding_all rfl
  case hclos => with_unfolding_all rfl
  case hcell => decide
  case hkind => with_unfolding_all rfl
  case hnames => decide
  case hx => with_unfolding_all rfl
  case hs => intro _; with_unfolding_all rfl
  k_steps
  refine Stop.un ?_
  refine' ⟨_, _, _, rfl, ?hll, ?hFF, ?hNN, ?_, ?_, ?_⟩
  case hNN => assumption
  case hFF => assumption
  case hll => exact (by omega)
  · intro C c t8 s₂ m₂ E' hc8 F8 hk8 hm
    rfl
  · intro C c t8 s₂ m₂ E' hc8 _ F8 hk8 hm
    have hn8 := F8.ns
    (k_steps; repeat' ((with_reducible refine Stop.un ?_); (first | ((with_reducible show wpAny _ _ (call (Value.builtin "ord") [Value.str (mkS [_]) _]) _ _ _); k_dflt (refine' ord_S ?_; k_whole); intro t' tk')); k_steps))
    all_goals first | exact Keeps.toks _ | exact Keeps.rfl' | exact Carried.int _ _
  · intro D ys h' tk n' N hne F hca
    have hI9 := carried_ints (f := fun c : Nat => (c : Int)) hca
    rw [codes_IN] at hI9
    clear hca
    k_steps
    refine bytes_IN (by assumption) (by assumption) rfl (List.Mem.head _) hI9 hs (by omega) ?_
    intro h' t' k' F' N'
    k_steps
    exact hret [] _ _ _ ⟨rfl, _, rfl⟩ no_led (by k_asm) (cb_drop (by assumption) (by intro p hp; k_ownIn))
section
set_option maxRecDepth 100000 in
set_option maxHeartbeats 100000000 in
theorem struck_ok (news : List (Addr × Obj)) (lc : Addr) (vc : List Value) (nc : Nat) (n0 : List (List Nat)) (hlc : (lc, listOf vc.toArray nc) ∈ news) (hic : StrsAre vc (SL n0)) (hz : n0.length ≤ 900) (hg : ∀ q ∈ n0, q ∉ [[], [46]]) : SpecW PySem.Challenge.rw_ko0129_02.row.prog Mine.hd.view_39 Mine.hd.heap_39 158 6 60 [.ref lc] news (fun led v => ∃ (q : Addr) (vs : List Value) (n : Nat), v = .ref q ∧ (q, listOf vs.toArray n) ∈ led ++ news ∧ StrsAre vs (SL (strk n0))) := by
  w_top off
  unfold SpecW
  intros
  rename_i hret
  refine wpAny_call ?_
  k_dflt cell_enter
  k_steps
  refine Stop.un ?_
  refine' ksw_while (σ := StSt) (fun c => c.sub ++ news) (fun c => [(Str.ofString "k", .int (c.k : Int) c.tk), (Str.ofString "names", .ref c.q)]) (fun _ => True) [] (fun c => c.ok n0 news) (fun c => 1000 * c.ns.length - c.k) ⟨0, _, lc, vc, nc, n0, []⟩ ?w1 ?w2 trivial ?w3 ?w4 ?w5
  case w1 => assumption
  case w2 => (show News _ _ _ news); assumption
  case w3 => kst_all
  case w4 => exact ⟨hlc, hic, Struck.start hg, Nat.zero_le _⟩
  rintro c u2 h2 tk2 _ hok F' N'
  obtain ⟨hm, hs, hst, hk⟩ := id hok
  have hnl := strs_len hs
  have hsl := hst.2.2.1
  replace N' : News _ _ h2 (c.sub ++ news) := N'
  (k_steps; repeat' ((with_reducible refine Stop.un ?_); (first | ((with_reducible show wpAny _ _ (binaryOp Operator.Add (Value.ref _) (Value.ref _)) _ _ _); k_dflt (refine' add_R ?FZq ?NZq ?aZq ?bZq ?laZq ?lbZq ?zZq ?_; (case FZq => k_asm); (case NZq => k_asm); (case aZq => (repeat (first | (with_reducible assumption) | (with_reducible exact List.mem_cons_self ..) | (with_reducible refine List.mem_cons_of_mem _ ?_) | (with_reducible refine List.mem_append_right _ ?_)))); (case bZq => (repeat (first | (with_reducible assumption) | (with_reducible exact List.mem_cons_self ..) | (with_reducible refine List.mem_cons_of_mem _ ?_) | (with_reducible refine List.mem_append_right _ ?_)))); (case laZq => first | with_reducible assumption | exact lstO_of _ _); (case lbZq => first | with_reducible assumption | exact lstO_of _ _); (case zZq => first | omega | ((simp only [List.length_append, List.length_take, List.length_drop, List.length_cons, List.length_nil]); omega)); k_whole); intro D' h' F' N' l1; (try k_lt l1); (try k_sweep)) | ((with_reducible show wpAny _ _ (subscriptTail _ (PySem.Expr.Slice _ _ none _) (Value.ref _) (Value.ref _)) _ _ _); k_dflt (refine' from_R ?FZq ?NZq ?mZq ?iZq ?yZq ?zZq ?_ ?sZq ?tZq; (case FZq => k_asm); (case NZq => k_asm); (case mZq => (repeat (first | (with_reducible assumption) | (with_reducible exact List.mem_cons_self ..) | (with_reducible refine List.mem_cons_of_mem _ ?_) | (with_reducible refine List.mem_append_right _ ?_)))); (case iZq => first | with_reducible assumption | exact lstO_of _ _); (case yZq => first | with_reducible rfl | exact two_cast _ | exact succ_cast _ | rfl); (case zZq => first | omega | ((simp only [List.length_append, List.length_take, List.length_drop, List.length_cons, List.length_nil]); omega)); (case sZq => with_unfolding_all rfl); (case tZq => (intro _; with_unfolding_all rfl)); k_whole); intro D' h' F' N' l1; (try k_lt l1); (try k_sweep)) | ((with_reducible show wpAny _ _ (subscriptTail _ (PySem.Expr.Slice _ _ none _) (Value.ref _) (Value.ref _)) _ _ _); k_dflt (refine' upto_R ?FZq ?NZq ?mZq ?iZq ?yZq ?zZq ?_ ?sZq ?tZq; (case FZq => k_asm); (case NZq => k_asm); (case mZq => (repeat (first | (with_reducible assumption) | (with_reducible exact List.mem_cons_self ..) | (with_reducible refine List.mem_cons_of_mem _ ?_) | (with_reducible refine List.mem_append_right _ ?_)))); (case iZq => first | with_reducible assumption | exact lstO_of _ _); (case yZq => first | with_reducible rfl | exact two_cast _ | exact succ_cast _ | rfl); (case zZq => first | omega | ((simp only [List.length_append, List.length_take, List.length_drop, List.length_cons, List.length_nil]); omega)); (case sZq => with_unfolding_all rfl); (case tZq => (intro _; with_unfolding_all rfl)); k_whole); intro D' h' F' N' l1; (try k_lt l1); (try k_sweep)) | ((with_reducible show wpAny _ _ (subscriptTail _ _ (Value.ref _) (Value.int _ _)) _ _ _); k_dflt (refine' itemAt_T ?NZq ?mZq ?iZq ?h0Zq ?h1Zq ?zZq ?_ ?hsZq ?htZq; (case NZq => k_asm); (case mZq => (repeat (first | (with_reducible assumption) | (with_reducible exact List.mem_cons_self ..) | (with_reducible refine List.mem_cons_of_mem _ ?_) | (with_reducible refine List.mem_append_right _ ?_)))); (case iZq => with_reducible assumption); (case h0Zq => omega); (case h1Zq => omega); (case zZq => first | omega | ((simp only [List.length_append, List.length_take, List.length_drop, List.length_cons, List.length_nil]); omega)); (case hsZq => with_unfolding_all rfl); (case htZq => (intro _; with_unfolding_all rfl)); k_whole); intro q' t' hq') | ((with_reducible show wpAny _ _ (subscriptTail _ _ (Value.ref _) (Value.int _ _)) _ _ _); k_dflt (refine' itemAt_T ?NZq ?mZq ?iZq ?h0Zq ?h1Zq ?zZq ?_ ?hsZq ?htZq; (case NZq => k_asm); (case mZq => (repeat (first | (with_reducible assumption) | (with_reducible exact List.mem_cons_self ..) | (with_reducible refine List.mem_cons_of_mem _ ?_) | (with_reducible refine List.mem_append_right _ ?_)))); (case iZq => with_reducible assumption); (case h0Zq => omega); (case h1Zq => omega); (case zZq => first | omega | ((simp only [List.length_append, List.length_take, List.length_drop, List.length_cons, List.length_nil]); omega)); (case hsZq => with_unfolding_all rfl); (case htZq => (intro _; with_unfolding_all rfl)); k_whole); intro q' t' hq') | ((with_reducible show wpAny _ _ (call (Value.builtin "len") [Value.ref _]) _ _ _); k_dflt (refine' len_T ?NZq ?mZq ?iZq ?zZq ?_; (case NZq => k_asm); (case mZq => (repeat (first | (with_reducible assumption) | (with_reducible exact List.mem_cons_self ..) | (with_reducible refine List.mem_cons_of_mem _ ?_) | (with_reducible refine List.mem_append_right _ ?_)))); (case iZq => with_reducible assumption); (case zZq => first | omega | ((simp only [List.length_append, List.length_take, List.length_drop, List.length_cons, List.length_nil]); omega)); k_whole); intro t' tk') | ((with_reducible show wpAny _ _ (compareOp CmpOp.NotEq (Value.str _ _) (Value.str _ _)) _ _ _); k_dflt (refine' ne_S ?hxZq ?hyZq ?_; (case hxZq => first | with_reducible rfl | with_reducible exact lit_slash | with_reducible exact lit_dot | with_reducible exact lit_dd | with_reducible exact lit_nil); (case hyZq => first | with_reducible rfl | with_reducible exact lit_slash | with_reducible exact lit_dot | with_reducible exact lit_dd | with_reducible exact lit_nil); k_whole)) | ((with_reducible show wpAny _ _ (compareOp CmpOp.Eq (Value.str _ _) (Value.str _ _)) _ _ _); k_dflt (refine' eq_S ?hxZq ?hyZq ?_; (case hxZq => first | with_reducible rfl | with_reducible exact lit_slash | with_reducible exact lit_dot | with_reducible exact lit_dd | with_reducible exact lit_nil); (case hyZq => first | with_reducible rfl | with_reducible exact lit_slash | with_reducible exact lit_dot | with_reducible exact lit_dd | with_reducible exact lit_nil); k_whole))); k_steps))
  all_goals try rw [StopG.eq]
  · obtain ⟨D9, hD9⟩ := led_head (show News _ _ _ ((_, listOf (c.vs.take c.k ++ c.vs.drop (c.k + 2)).toArray 0) :: _) from by assumption)
    subst hD9
    refine' ksw_end (σ := StSt) ⟨0, _, D9, c.vs.take c.k ++ c.vs.drop (c.k + 2), 0, c.ns.take c.k ++ c.ns.drop (c.k + 2), [(D9, listOf (c.vs.take c.k ++ c.vs.drop (c.k + 2)).toArray 0)]⟩ ?F ?N ?hn trivial ?hk ?hr ?hp ?hm
    case F => assumption
    case N => assumption
    case hk => kst_all
    case hn => exact List.forall_mem_cons.mpr ⟨List.mem_cons_self .., (show ∀ p ∈ news, _ from fun p hp => by (repeat (first | (with_reducible assumption) | (with_reducible exact List.mem_cons_self ..) | (with_reducible refine List.mem_cons_of_mem _ ?_) | (with_reducible refine List.mem_append_right _ ?_))))⟩
    case hr => intro z h2 h3; (simp only [List.forall_mem_cons, List.not_mem_nil, false_implies, implies_true, and_true, ne_eq] at h2); first | (simp only [kstB, h2, List.contains_nil, if_false, Bool.false_eq_true, reduceIte]; done) | ((have h4 := h3); (simp only [List.contains_cons, List.contains_nil, Bool.or_false, Bool.or_eq_false_iff, beq_eq_false_iff_ne, ne_eq] at h4); (simp only [kstB, h2, h3, h4, if_false, Bool.false_eq_true, reduceIte]; done))
    case hp => exact ⟨List.mem_cons_self .., strs_cut hs _ _, hst.strike (by assumption) (by assumption) (by assumption) (by assumption), Nat.zero_le _⟩
    case hm => dsimp only; rw [List.length_append, List.length_take, List.length_drop]; omega
  iterate 2
    · refine' ksw_end (σ := StSt) ⟨c.k + 1, _, c.q, c.vs, c.n, c.ns, c.sub⟩ ?F ?N ?hn trivial ?hk ?hr ?hp ?hm
      case F => assumption
      case N => assumption
      case hk => kst_all
      case hn => exact fun p hp => hp
      case hr => intro z h2 h3; (simp only [List.forall_mem_cons, List.not_mem_nil, false_implies, implies_true, and_true, ne_eq] at h2); first | (simp only [kstB, h2, List.contains_nil, if_false, Bool.false_eq_true, reduceIte]; done) | ((have h4 := h3); (simp only [List.contains_cons, List.contains_nil, Bool.or_false, Bool.or_eq_false_iff, beq_eq_false_iff_ne, ne_eq] at h4); (simp only [kstB, h2, h3, h4, if_false, Bool.false_eq_true, reduceIte]; done))
      case hp => exact ⟨hm, hs, hst.next (by assumption) (by first | exact .inl (Decidable.not_not.mp (by assumption)) | exact .inr (not_dd (by assumption) (by assumption))), by show c.k + 1 ≤ c.ns.length; omega⟩
      case hm => dsimp only; omega
  · exact hret c.sub _ _ _ ⟨c.q, c.vs, c.n, rfl, hm, by rw [← hst.done (by omega)]; exact hs⟩ (by k_asm) (cb_drop (by assumption) (fun p hp => hp))
end
theorem splitext_K (news : List (Addr × Obj)) (k : Bool) (l : List Nat) (t : Tok) (hz : l.length ≤ 4096) (hs : OkK k l) : Spec PySem.Challenge.rw_ko0129_02.row.prog Mine.hd.view_39 Mine.hd.heap_39 115 16 90 [valK k l t] news (fun led v => ∃ (q : Addr) (t1 t2 : Tok) (x1 x2 : List Nat), v = .ref q ∧ led = [(q, tupO [valK k x1 t1, valK k x2 t2])] ∧ x1 = l.take (extK l) ∧ x2 = l.drop (extK l)) := by
  cases k
  · exact splitext_S news l t hz
  · exact splitext_B news l t hz hs.small
theorem normpath_K (news : List (Addr × Obj)) (k : Bool) (l : List Nat) (t : Tok) (hz : l.length ≤ 2000) (hs : OkK k l) : Spec PySem.Challenge.rw_ko0129_02.row.prog Mine.hd.view_39 Mine.hd.heap_39 132 20 120 [valK k l t] news (fun led v => led = [] ∧ ∃ t, v = valK k (normL l) t) := by
  cases k
  · exact (normpath_S news l t hz).weak fun led v h => by
      obtain ⟨a, y, t, b, c⟩ := h
      subst a b c
      exact ⟨rfl, t, rfl⟩
  · exact (normpath_B news l t hz hs.small).weak fun led v h => by
      obtain ⟨a, y, t, b, c⟩ := h
      subst a b c
      exact ⟨rfl, t, rfl⟩
theorem made_K (news : List (Addr × Obj)) (k : Bool) (l : List Nat) (t : Tok) (hz : l.length ≤ 4096) (hs : Small l) : Spec PySem.Challenge.rw_ko0129_02.row.prog Mine.hd.view_39 Mine.hd.heap_39 151 6 60 [.str (mkS l) t, .bool k] news (fun led v => led = [] ∧ ∃ t, v = valK k l t) := by
  cases k
  · exact madeT_ok news l t
  · exact madeO_ok news l t hz hs
local macro_rules | `(tactic| walk_at "newList") => `(tactic| (k_here; (with_reducible rename CompMark => hmk'); k_dflt (refine' newList_KK ?F ?N ?z ?_; (case F => k_asm); (case N => k_asm); (case z => exact Nat.le_of_ble_eq_true rfl); k_whole); intro D' h' F' N' l1 hkp'))
local macro_rules | `(tactic| walk_at "kk n") => `(tactic| fail_if_success (with_reducible show wpAny _ _ _ (SetTo _ _ _ _ _ _ _) _ _))
local macro_rules | `(tactic| walk_at "exec If") => `(tactic| (walk_at "kk n"; (first | (with_reducible show wpAny _ _ (exec (Stmt.If (.Compare (.Name _ _) [.Gt] _ _) [.Assign _ _ _] _ _) _) _ _ _) | (with_reducible show wpAny _ _ (exec (Stmt.If (.Compare (.Name _ _) [.Eq] _ _) [.Assign _ _ _] _ _) _) _ _ _)); refine Stop.of ?_))
local macro_rules | `(tactic| walk_at "exec Assign") => `(tactic| (walk_at "kk n"; (first | (with_reducible show wpAny _ _ (exec (Stmt.Assign _ (.IfExp _ _ _ _) _) _) _ _ _) | (with_reducible show wpAny _ _ (exec (Stmt.Assign _ (.BinOp (.IfExp _ _ _ _) _ _ _) _) _) _ _ _)); refine Stop.of ?_))
local macro_rules | `(tactic| walk_at "subscriptTail") => `(tactic| (k_here; (with_reducible show wpAny _ _ (subscriptTail _ _ (Value.ref _) (Value.int (-1) _)) _ _ _); refine Stop.of ?_))
local macro_rules | `(tactic| walk_at "subscriptTail") => `(tactic| (k_here; (with_reducible show wpAny _ _ (subscriptTail _ (Expr.Slice _ _ none _) (valK _ _ _) (Value.ref _)) _ _ _); refine Stop.of ?_))
set_option maxRecDepth 100000 in
set_option maxHeartbeats 100000000 in
theorem law_holds : PySem.Challenge.rw_ko0129_02.Holds := Mine.hd (by
  k_go0
  (all_goals try k_fold)
  rename List Int => ns
  have hpost : PySem.Challenge.rw_ko0129_02.row.claim.post [ofPy (.list (ns.map PyData.int))] (.bool true) [ofPy (.list (ns.map PyData.int))] = true := by wrow_post
  have hrs : ∀ cls, PySem.Challenge.rw_ko0129_02.row.claim.raises [ofPy (.list (ns.map PyData.int))] cls = false := raisesW_false (by wrow_none_raised)
  (k_steps; repeat' ((with_reducible refine Stop.un ?_); (first | ((with_reducible show wpAny _ _ (call (Value.ref 151) [Value.str (mkS _) _, Value.bool _]) _ _ _); k_dflt (refine' Spec.use2 (by k_asm) (by k_asm) (by k_asm) (by k_asm) (by k_asm) (by first | exact rfl | assumption) (made_K _ _ _ _ ?p1Zq ?p2Zq) (by ktr_room) (by ktr_units) ?_; (case p1Zq => first | omega | exact Nat.le_trans (normL_len _) (by omega) | ((simp only [List.length_append, List.length_take, List.length_drop, List.length_cons, List.length_nil]); omega)); (case p2Zq => first | with_reducible assumption | exact Small.sl (by with_reducible assumption) _ _ | exact Small.sl (normL_small (by with_reducible assumption)) _ _ | exact normL_small (by with_reducible assumption) | exact Small.tk (by with_reducible assumption) _ | exact Small.dr (by with_reducible assumption) _ | exact Small.tk (normL_small (by with_reducible assumption)) _ | exact Small.dr (normL_small (by with_reducible assumption)) _); k_whole); intro led' v' h' tk' hR' hfr' F' N'; (obtain ⟨hL', t', hV'⟩ := hR'); subst hL' hV'; (try simp only [List.nil_append, List.cons_append] at F' N'); (try clear hfr'); k_sweep) | ((with_reducible show wpAny _ _ (call (Value.ref 146) [Value.ref _]) _ _ _); k_dflt (refine' SpecP.use2 (by k_asm) (by k_asm) (by k_asm) (by k_asm) (by k_asm) (by first | exact rfl | assumption) (text_ok _ _ _ _ ?p1Zq ?p2Zq) (by ktr_room) (by ktr_units) ?hpZq ?_; (case hpZq => first | assumption | exact list_up (by assumption) (Fr.keep (by assumption)) | is_list); (case p1Zq => with_reducible assumption); (case p2Zq => first | assumption | omega); k_whole); intro led' v' h' tk' hR' hfr' F' N'; (have hL' := hR'.1); (obtain ⟨lc', tl', hV', hlc', hsm'⟩ := hR'.2); clear hR'; subst hL'; subst hV'; (try simp only [List.nil_append, List.cons_append] at F' N'); (try clear hfr'); k_sweep) | (first | ((with_reducible show wpAny _ _ (call (Value.builtin "len") [Value.str (mkS _) _]) _ _ _); k_dflt (refine' len_S ?hzZq ?_; (case hzZq => omega); k_whole)) | ((with_reducible show wpAny _ _ (call (Value.builtin "len") [Value.bytes (mkB _) _]) _ _ _); k_dflt (refine' len_B ?hzZq ?_; (case hzZq => omega); k_whole))) | ((with_reducible show wpAny _ _ (call (Value.builtin _) [Value.str (mkS _) _, Value.str _ _]) _ _ _); k_dflt (refine' lstrip_S ?hyZq ?hzZq ?_; (case hyZq => first | with_reducible rfl | with_reducible exact lit_slash | with_reducible exact lit_dot); (case hzZq => omega); k_whole); intro t' tk' hlen')); k_steps))
  rename List Nat => lc
  have hlz : lc.length ≤ 378 := by omega
  unfold Stop
  refine' comp_eval (K := ItemKind.str) (fun y => decide (y.cps.toList ∉ [[], [46]])) (fun y => PyData.str y) (by assumption) ?hh ?hclos ?hcell ?hkind ?hnames ?hx ?hs ?h
  case hh => with_unfolding_all rfl
  case hclos => with_unfolding_all rfl
  case hcell => decide
  case hkind => with_unfolding_all rfl
  case hnames => decide
  case hx => with_unfolding_all rfl
  case hs => intro _; with_unfolding_all rfl
  (k_steps; repeat' ((with_reducible refine Stop.un ?_); (first | ((with_reducible show wpAny _ _ (call (Value.builtin "str.split") [Value.str (mkS _) _, Value.str _ _]) _ _ _); k_dflt (refine' strSplit_S ?FZq ?NZq ?yZq ?zZq ?_; (case FZq => k_asm); (case NZq => k_asm); (case yZq => first | with_reducible rfl | with_reducible exact lit_slash | with_reducible exact lit_dot | with_reducible exact lit_dd | with_reducible exact lit_nil); (case zZq => first | omega | exact Nat.le_trans (normL_len _) (by omega) | ((simp only [List.length_append, List.length_take, List.length_drop, List.length_cons, List.length_nil]); omega)); k_whole); intro D' us' h' tk' hS' F' N' l1; (try k_lt l1); (try k_sweep))); k_steps))
  unfold Stop
  refine' ⟨_, _, _, _, _, rfl, ?hmm, ?haa, ?hll, ?hFF, ?hNN, ?_, ?_, ?_⟩
  case hNN => assumption
  case hFF => assumption
  case hmm => (repeat (first | (with_reducible assumption) | (with_reducible exact List.mem_cons_self ..) | (with_reducible refine List.mem_cons_of_mem _ ?_)))
  case haa => exact (StrsAre.areOf (by with_reducible assumption))
  case hll => exact (by rw [SL_length]; exact Nat.le_trans (splitL_length 47 _) (by omega))
  · intro C a v s₂ m₂ E' ha hv F8 hk8 hm
    obtain ⟨p, hp, rfl⟩ := SL_mem ha
    obtain ⟨t8, rfl⟩ := hv
    have hn8 := F8.ns
    have N8 := news_nil F8
    have hmk : CompMark := True.intro
    (k_steps; repeat' ((with_reducible refine Stop.un ?_); (first | ((with_reducible show wpAny _ _ (compareOp CmpOp.NotIn (Value.str (mkS _) _) (Value.ref _)) _ _ _); k_dflt (refine' notin_T ?NZq ?mZq ?iZq ?_; (case NZq => k_asm); (case mZq => (repeat (first | (with_reducible assumption) | (with_reducible exact List.mem_cons_self ..) | (with_reducible refine List.mem_cons_of_mem _ ?_)))); (case iZq => exact strs_lit2 _ _); k_whole))); k_steps))
    all_goals first | exact ⟨_, _, rfl, by assumption⟩ | rw [mkS_cps]
  · rintro C a v s₂ m₂ E' ha ⟨t8, rfl⟩ _ F8 hk8 hm
    have hn8 := F8.ns
    k_steps
    all_goals first | exact Keeps.toks _ | exact Keeps.rfl' | exact Carried.str _ _
  · intro D ys h' tk n' N hne F hca
    have hI9 := carried_id hca
    rw [kept_SL] at hI9
    clear hca
    (k_steps; repeat' ((with_reducible refine Stop.un ?_); (first | ((with_reducible show wpAny _ _ (call (Value.ref 158) [Value.ref _]) _ _ _); k_dflt (refine' SpecW.use2 (by k_asm) (by k_asm) (by k_asm) (by k_asm) (by k_asm) (by first | exact rfl | assumption) (struck_ok _ _ _ _ _ ?p1Zq ?p2Zq ?p3Zq ?p4Zq) (by ktr_room) (by ktr_units) ?_; (case p1Zq => (repeat (first | (with_reducible assumption) | (with_reducible exact List.mem_cons_self ..) | (with_reducible refine List.mem_cons_of_mem _ ?_) | (with_reducible refine List.mem_append_right _ ?_)))); (case p2Zq => with_reducible assumption); (case p3Zq => exact Nat.le_trans (keptZ_len _) (by omega)); (case p4Zq => exact keptZ_good _); k_whole); intro led' v' h' tk' hR' F' N'; (obtain ⟨q', vs', n', hV', hM', hS'⟩ := hR'); subst hV'; (try simp only [List.nil_append, List.cons_append] at F' N'); k_sweep)); k_steps))
    refine Stop.un ?_
    refine join_setN (Str.ofString "names") (fun X led v => ∃ (q : Addr) (vs : List Value) (n : Nat), v = .ref q ∧ (q, listOf vs.toArray n) ∈ led ++ X ∧ StrsAre vs (SL (ncomps lc))) (by assumption) (by assumption) ?_ ?_
    · k_steps
      · unfold Stop
        refine' comp_asg (K := ItemKind.str) (fun y => decide (y.cps.toList ≠ [46, 46])) (fun y => PyData.str y) (by assumption) ?hsw ?hL ?hh ?hclos ?hcell ?hkind ?hnames ?hx ?hy ?hp ?hs ?h
        case hsw => with_unfolding_all rfl
        case hL => with_unfolding_all rfl
        case hy => with_unfolding_all rfl
        case hp => with_unfolding_all rfl
        case hh => with_unfolding_all rfl
        case hclos => with_unfolding_all rfl
        case hcell => decide
        case hkind => with_unfolding_all rfl
        case hnames => decide
        case hx => with_unfolding_all rfl
        case hs => intro _; with_unfolding_all rfl
        k_steps
        unfold Stop
        refine' ⟨_, _, _, _, _, rfl, ?hmm, ?haa, ?hll, ?hFF, ?hNN, ?_, ?_, ?_⟩
        case hNN => assumption
        case hFF => assumption
        case hmm => (repeat (first | (with_reducible assumption) | (with_reducible exact List.mem_cons_self ..) | (with_reducible refine List.mem_cons_of_mem _ ?_) | (with_reducible refine List.mem_append_right _ ?_)))
        case haa => exact (StrsAre.areOf (by with_reducible assumption))
        case hll => exact (by rw [SL_length]; exact Nat.le_trans (strk_len _) (Nat.le_trans (keptZ_len _) (by omega)))
        · intro C a v s₂ m₂ E' ha hv F8 hk8 hm
          obtain ⟨p, hp, rfl⟩ := SL_mem ha
          obtain ⟨t8, rfl⟩ := hv
          have hn8 := F8.ns
          (k_steps; repeat' ((with_reducible refine Stop.un ?_); (first | ((with_reducible show wpAny _ _ (compareOp CmpOp.NotEq (Value.str _ _) (Value.str _ _)) _ _ _); k_dflt (refine' ne_S ?hxZq ?hyZq ?_; (case hxZq => first | with_reducible rfl | with_reducible exact lit_slash | with_reducible exact lit_dot | with_reducible exact lit_dd | with_reducible exact lit_nil); (case hyZq => first | with_reducible rfl | with_reducible exact lit_slash | with_reducible exact lit_dot | with_reducible exact lit_dd | with_reducible exact lit_nil); k_whole))); k_steps))
          all_goals first | exact Keeps.toks _ | exact Keeps.rfl' | rw [mkS_cps]
        · rintro C a v s₂ m₂ E' ha ⟨t8, rfl⟩ _ F8 hk8 hm
          have hn8 := F8.ns
          k_steps
          all_goals first | exact Keeps.toks _ | exact Keeps.rfl' | exact Carried.str _ _
        · intro D ys h' tk n' N hne F hca
          have hI9 := carried_id hca
          rw [nodd_SL, names_1 (root_pos (by assumption))] at hI9
          clear hca
          k_steps
          exact ⟨rfl, _, _, _, [_], rfl, by assumption, by assumption, _, _, _, rfl, List.mem_cons_self .., hI9⟩
      · exact ⟨rfl, _, _, _, [], rfl, set_same (by assumption) rfl, by assumption, _, _, _, rfl, by assumption, by rw [← names_0 (root_of0 (by assumption))]; assumption⟩
    · rintro led v h' tk' ⟨q, ws, n, rfl, hqm, hws⟩ F' N'
      k_steps
      refine Stop.un ?_
      refine join_set (Str.ofString "straight") (fun led v => led = [] ∧ ∃ t, v = .str (mkS (rootL lc ++ joinL [47] (ncomps lc))) t) (by assumption) (by assumption) ?_ ?_
      · (k_steps; repeat' ((with_reducible refine Stop.un ?_); (first | ((with_reducible show wpAny _ _ (binaryOp Operator.Add (Value.str (Str.ofString _) _) (Value.str (mkS _) _)) _ _ _); k_dflt (refine' add_S ?hxZq ?hyZq ?hzZq ?h2Zq ?_; (case hxZq => first | with_reducible exact lit_nil | with_reducible exact lit_slash | with_reducible exact lit_ss); (case hyZq => with_reducible rfl); (case hzZq => decide); (case h2Zq => exact Nat.le_trans (wt_join 47 _) (Nat.le_trans (ncomps_wt _) (by omega))); k_whole); intro t' tk') | ((with_reducible show wpAny _ _ (call (Value.builtin _) [Value.str _ _, Value.ref _]) _ _ _); k_dflt (refine' join_S ?NZq ?yZq ?mZq ?iZq ?zZq ?_; (case NZq => k_asm); (case yZq => first | with_reducible rfl | with_reducible exact lit_slash | with_reducible exact lit_dot | with_reducible exact lit_dd | with_reducible exact lit_nil); (case mZq => (repeat (first | (with_reducible assumption) | (with_reducible exact List.mem_cons_self ..) | (with_reducible refine List.mem_cons_of_mem _ ?_) | (with_reducible refine List.mem_append_right _ ?_)))); (case iZq => with_reducible assumption); (case zZq => exact Nat.le_trans (ncomps_wt _) (by omega)); k_whole); intro t' tk')); k_steps))
        all_goals (refine ⟨rfl, _, _, _, [], rfl, by assumption, by assumption, rfl, _, str_eq ?_⟩; first | rw [root_e0 (by assumption)] | rw [root_of2 (by assumption)] | rw [root_e1 (by assumption) (by assumption)])
      · rintro led v h' tk' ⟨rfl, t', rfl⟩ F' N'
        rw [List.nil_append] at N'
        have hnl := normL_len lc
        have hwj := Nat.le_trans (wt_join 47 _) (ncomps_wt lc)
        have hrl := rootL_length lc
        have hncl := ncomps_len lc
        k_steps
        refine Stop.un ?_
        refine join_set (Str.ofString "straight") (fun led v => led = [] ∧ ∃ t, v = .str (mkS (normL lc)) t) (by assumption) (by assumption) ?_ ?_
        · (k_steps; repeat' ((with_reducible refine Stop.un ?_); (first | ((with_reducible show wpAny _ _ (compareOp CmpOp.Eq (Value.str _ _) (Value.str _ _)) _ _ _); k_dflt (refine' eq_S ?hxZq ?hyZq ?_; (case hxZq => first | with_reducible rfl | with_reducible exact lit_slash | with_reducible exact lit_dot | with_reducible exact lit_dd | with_reducible exact lit_nil); (case hyZq => first | with_reducible rfl | with_reducible exact lit_slash | with_reducible exact lit_dot | with_reducible exact lit_dd | with_reducible exact lit_nil); k_whole))); k_steps))
          · exact ⟨rfl, _, _, _, [], rfl, by assumption, by assumption, rfl, _, by rw [norm_dot (of_decide_eq_true (by assumption)), lit_dot]⟩
          · exact ⟨rfl, _, _, _, [], rfl, set_same (by assumption) rfl, by assumption, rfl, _, str_eq (norm_no (of_decide_eq_false (by assumption)))⟩
        · rintro led v h' tk' ⟨rfl, t', rfl⟩ F' N'
          rw [List.nil_append] at N'
          k_steps
          refine Stop.un ?_
          refine join_set (Str.ofString "last") (fun led v => ∃ t, v = .str (mkS (lastL lc)) t) (by assumption) (by assumption) ?_ ?_
          · (k_steps; repeat' ((with_reducible refine Stop.un ?_); (first | ((with_reducible show wpAny _ _ (subscriptTail _ _ (Value.ref _) (Value.int (-1) _)) _ _ _); k_dflt (refine' itemLast_T ?NZq ?mZq ?iZq ?pZq ?zZq ?_ ?hsZq ?htZq; (case NZq => k_asm); (case mZq => (repeat (first | (with_reducible assumption) | (with_reducible exact List.mem_cons_self ..) | (with_reducible refine List.mem_cons_of_mem _ ?_) | (with_reducible refine List.mem_append_right _ ?_)))); (case iZq => with_reducible assumption); (case pZq => with_reducible assumption); (case zZq => first | omega | exact Nat.le_trans (normL_len _) (by omega) | ((simp only [List.length_append, List.length_take, List.length_drop, List.length_cons, List.length_nil]); omega)); (case hsZq => with_unfolding_all rfl); (case htZq => (intro _; with_unfolding_all rfl)); k_whole); intro q' t' hq') | ((with_reducible show wpAny _ _ (compareOp CmpOp.NotEq (Value.ref _) (Value.ref _)) _ _ _); k_dflt (refine' ne_T ?NZq ?mZq ?iZq ?m2Zq ?jZq ?uZq ?_; (case NZq => k_asm); (case mZq => (repeat (first | (with_reducible assumption) | (with_reducible exact List.mem_cons_self ..) | (with_reducible refine List.mem_cons_of_mem _ ?_) | (with_reducible refine List.mem_append_right _ ?_)))); (case m2Zq => (repeat (first | (with_reducible assumption) | (with_reducible exact List.mem_cons_self ..) | (with_reducible refine List.mem_cons_of_mem _ ?_) | (with_reducible refine List.mem_append_right _ ?_)))); (case iZq => first | with_reducible assumption | with_reducible exact strs_nil); (case jZq => first | with_reducible assumption | with_reducible exact strs_nil); (case uZq => ke_room); k_whole))); k_steps))
            · exact ⟨rfl, _, _, _, [_], rfl, by assumption, by assumption, _, str_eq (last_some (by assumption))⟩
            · exact ⟨rfl, _, _, _, [_], rfl, by assumption, by assumption, _, by rw [last_none (Decidable.not_not.mp (by assumption)), lit_nil]⟩
          · rintro led9 v h' tk' ⟨t', rfl⟩ F' N'
            have hll := last_len (l := lc)
            (k_steps; repeat' ((with_reducible refine Stop.un ?_); (first | (first | ((with_reducible show wpAny _ _ (call (Value.builtin "len") [Value.str (mkS _) _]) _ _ _); k_dflt (refine' len_S ?hzZq ?_; (case hzZq => omega); k_whole)) | ((with_reducible show wpAny _ _ (call (Value.builtin "len") [Value.bytes (mkB _) _]) _ _ _); k_dflt (refine' len_B ?hzZq ?_; (case hzZq => omega); k_whole)))); k_steps))
            refine Stop.un ?_
            refine For_invVF (by assumption) rfl rfl ?_
            (k_steps; repeat' ((with_reducible refine Stop.un ?_); (first | (first | ((with_reducible show wpAny _ _ (call (Value.builtin "len") [Value.str (mkS _) _]) _ _ _); k_dflt (refine' len_S ?hzZq ?_; (case hzZq => omega); k_whole)) | ((with_reducible show wpAny _ _ (call (Value.builtin "len") [Value.bytes (mkB _) _]) _ _ _); k_dflt (refine' len_B ?hzZq ?_; (case hzZq => omega); k_whole)))); k_steps))
            refine Stop.un ?_
            refine' for_rangeN (σ := Int × Nat) (lastL lc).length (fun c => [(Str.ofString "cut", .int c.1 c.2)]) [] (fun i c => c.1 = (((normL lc).length - (lastL lc).length + extR (lastL lc) i : Nat) : Int)) (_, _) rfl (by assumption) (by assumption) (by assumption) ?hk (cut_0 lc) rfl (by omega) ?turn ?done
            case hk => kst_all
            case turn =>
              rintro ⟨x9, tx⟩ i k t9 u9 h9 tk9 I oI hi' hk' hP hne F' N'
              dsimp only at *
              subst hk'
              (k_steps; repeat' ((with_reducible refine Stop.un ?_); (first | ((with_reducible show wpAny _ _ (subscriptTail _ _ (Value.str (mkS _) _) (Value.int (Nat.cast _) _)) _ _ _); k_dflt (refine' item_S rfl ?h0Zq ?h1Zq ?hzZq ?_ ?hsZq ?htZq; (case h0Zq => omega); (case h1Zq => omega); (case hzZq => omega); (case hsZq => with_unfolding_all rfl); (case htZq => (intro _; with_unfolding_all rfl)); k_whole); intro t' tk' c' hc') | ((with_reducible show wpAny _ _ (compareOp CmpOp.Eq (Value.str _ _) (Value.str _ _)) _ _ _); k_dflt (refine' eq_S ?hxZq ?hyZq ?_; (case hxZq => first | with_reducible rfl | with_reducible exact lit_slash | with_reducible exact lit_dot | with_reducible exact lit_dd | with_reducible exact lit_nil); (case hyZq => first | with_reducible rfl | with_reducible exact lit_slash | with_reducible exact lit_dot | with_reducible exact lit_dd | with_reducible exact lit_nil); k_whole))); k_steps))
              · refine Stop.un ?_
                refine' comp_signs (fun c => decide (c ≠ 46)) (fun c => PyData.str (mkS [c])) (by assumption) ?hh ?hclos ?hcell ?hkind ?hnames ?hx ?hs ?h
                case hh => with_unfolding_all rfl
                case hclos => with_unfolding_all rfl
                case hcell => decide
                case hkind => with_unfolding_all rfl
                case hnames => decide
                case hx => with_unfolding_all rfl
                case hs => intro _; with_unfolding_all rfl
                (k_steps; repeat' ((with_reducible refine Stop.un ?_); (first | ((with_reducible show wpAny _ _ (subscriptTail _ (Expr.Slice _ _ none _) (Value.str (mkS _) _) (Value.ref _)) _ _ _); (with_reducible rename Fr _ _ _ _ => F'); (with_reducible rename News _ _ _ _ => N'); k_dflt (refine' slice_S (s := ⟨_, _, _, _, _⟩) F' N' ?h1Zq ?h2Zq ?hzZq ?_; (case h1Zq => constructor); (case h2Zq => constructor); (case hzZq => omega); k_whole); intro h' t' tk' F' N' hlen'; (try k_sweep))); k_steps))
                refine Stop.un ?_
                refine' ⟨_, _, _, rfl, ?hll, ?hFF, ?hNN, ?_, ?_, ?_⟩
                case hNN => assumption
                case hFF => assumption
                case hll => exact (by omega)
                · intro C c t8 s₂ m₂ E' hc8 F8 hk8 hm
                  have hn8 := F8.ns
                  (k_steps; repeat' ((with_reducible refine Stop.un ?_); (first | ((with_reducible show wpAny _ _ (compareOp CmpOp.NotEq (Value.str _ _) (Value.str _ _)) _ _ _); k_dflt (refine' ne_S ?hxZq ?hyZq ?_; (case hxZq => first | with_reducible rfl | with_reducible exact lit_slash | with_reducible exact lit_dot | with_reducible exact lit_dd | with_reducible exact lit_nil); (case hyZq => first | with_reducible rfl | with_reducible exact lit_slash | with_reducible exact lit_dot | with_reducible exact lit_dd | with_reducible exact lit_nil); k_whole))); k_steps))
                  all_goals first | exact Keeps.toks _ | exact Keeps.rfl' | exact dec46 _
                · intro C c t8 s₂ m₂ E' hc8 _ F8 hk8 hm
                  have hn8 := F8.ns
                  k_steps
                  all_goals first | exact Keeps.toks _ | exact Keeps.rfl' | exact Carried.str _ _
                · intro D ys h' tk n' N hne2 F hca
                  have hI9 := carried_strs (f := fun c : Nat => mkS [c]) hca
                  rw [sgn_SL, pySl_to] at hI9
                  clear hca
                  (k_steps; repeat' ((with_reducible refine Stop.un ?_); (first | ((with_reducible show wpAny _ _ (compareOp CmpOp.NotEq (Value.ref _) (Value.ref _)) _ _ _); k_dflt (refine' ne_T ?NZq ?mZq ?iZq ?m2Zq ?jZq ?uZq ?_; (case NZq => k_asm); (case mZq => (repeat (first | (with_reducible assumption) | (with_reducible exact List.mem_cons_self ..) | (with_reducible refine List.mem_cons_of_mem _ ?_) | (with_reducible refine List.mem_append_right _ ?_)))); (case m2Zq => (repeat (first | (with_reducible assumption) | (with_reducible exact List.mem_cons_self ..) | (with_reducible refine List.mem_cons_of_mem _ ?_) | (with_reducible refine List.mem_append_right _ ?_)))); (case iZq => first | with_reducible assumption | with_reducible exact strs_nil); (case jZq => first | with_reducible assumption | with_reducible exact strs_nil); (case uZq => ke_room); k_whole)) | (first | ((with_reducible show wpAny _ _ (call (Value.builtin "len") [Value.str (mkS _) _]) _ _ _); k_dflt (refine' len_S ?hzZq ?_; (case hzZq => omega); k_whole)) | ((with_reducible show wpAny _ _ (call (Value.builtin "len") [Value.bytes (mkB _) _]) _ _ _); k_dflt (refine' len_B ?hzZq ?_; (case hzZq => omega); k_whole)))); k_steps))
                  all_goals rw [StopG.eq]
                  · refine' turn_end (σ := Int × Nat) (_, _) ?F ?N ?hn ?hI ?hne ?hk ?hr ?hp
                    case F => assumption
                    case N => assumption
                    case hn => exact fun p hp => by (repeat (first | (with_reducible assumption) | (with_reducible exact List.mem_cons_self ..) | (with_reducible refine List.mem_cons_of_mem _ ?_) | (with_reducible refine List.mem_append_right _ ?_)))
                    case hI => (repeat (first | (with_reducible assumption) | (with_reducible exact List.mem_cons_self ..) | (with_reducible refine List.mem_cons_of_mem _ ?_) | (with_reducible refine List.mem_append_right _ ?_)))
                    case hne => exact hne
                    case hk => kst_all
                    case hr => intro z h1 h2 h3; (simp only [List.forall_mem_cons, List.not_mem_nil, false_implies, implies_true, and_true, ne_eq] at h2); first | (simp only [kstB, h1, h2, List.contains_nil, if_false, Bool.false_eq_true, reduceIte]; done) | ((have h4 := h3); (simp only [List.contains_cons, List.contains_nil, Bool.or_false, Bool.or_eq_false_iff, beq_eq_false_iff_ne, ne_eq] at h4); (simp only [kstB, h1, h2, h3, h4, if_false, Bool.false_eq_true, reduceIte]; done))
                    case hp => exact cut_1 (extR_yes (by assumption) (by assumption) (sgn_ne (by assumption)))
                  · refine' turn_end (σ := Int × Nat) (_, _) ?F ?N ?hn ?hI ?hne ?hk ?hr ?hp
                    case F => assumption
                    case N => assumption
                    case hn => exact fun p hp => by (repeat (first | (with_reducible assumption) | (with_reducible exact List.mem_cons_self ..) | (with_reducible refine List.mem_cons_of_mem _ ?_) | (with_reducible refine List.mem_append_right _ ?_)))
                    case hI => (repeat (first | (with_reducible assumption) | (with_reducible exact List.mem_cons_self ..) | (with_reducible refine List.mem_cons_of_mem _ ?_) | (with_reducible refine List.mem_append_right _ ?_)))
                    case hne => exact hne
                    case hk => kst_all
                    case hr => intro z h1 h2 h3; (simp only [List.forall_mem_cons, List.not_mem_nil, false_implies, implies_true, and_true, ne_eq] at h2); first | (simp only [kstB, h1, h2, List.contains_nil, if_false, Bool.false_eq_true, reduceIte]; done) | ((have h4 := h3); (simp only [List.contains_cons, List.contains_nil, Bool.or_false, Bool.or_eq_false_iff, beq_eq_false_iff_ne, ne_eq] at h4); (simp only [kstB, h1, h2, h3, h4, if_false, Bool.false_eq_true, reduceIte]; done))
                    case hp => exact cut_2 hP (extR_no2 (sgn_nn (by assumption)))
              · rw [StopG.eq]
                refine' turn_end (σ := Int × Nat) (_, _) ?F ?N ?hn ?hI ?hne ?hk ?hr ?hp
                case F => assumption
                case N => assumption
                case hn => exact fun p hp => by (repeat (first | (with_reducible assumption) | (with_reducible exact List.mem_cons_self ..) | (with_reducible refine List.mem_cons_of_mem _ ?_) | (with_reducible refine List.mem_append_right _ ?_)))
                case hI => (repeat (first | (with_reducible assumption) | (with_reducible exact List.mem_cons_self ..) | (with_reducible refine List.mem_cons_of_mem _ ?_) | (with_reducible refine List.mem_append_right _ ?_)))
                case hne => exact hne
                case hk => kst_all
                case hr => intro z h1 h2 h3; (simp only [List.forall_mem_cons, List.not_mem_nil, false_implies, implies_true, and_true, ne_eq] at h2); first | (simp only [kstB, h1, h2, List.contains_nil, if_false, Bool.false_eq_true, reduceIte]; done) | ((have h4 := h3); (simp only [List.contains_cons, List.contains_nil, Bool.or_false, Bool.or_eq_false_iff, beq_eq_false_iff_ne, ne_eq] at h4); (simp only [kstB, h1, h2, h3, h4, if_false, Bool.false_eq_true, reduceIte]; done))
                case hp => exact cut_2 hP (extR_no1 (by assumption) (by assumption))
            case done =>
              rintro ⟨x9, tx⟩ u9 h9 tk9 hP F' N'
              dsimp only at *
              rw [(cut_straight lc).1] at hP
              subst hP
              (k_steps; repeat' ((with_reducible refine Stop.un ?_); (first | ((with_reducible show wpAny _ _ (subscriptTail _ (Expr.Slice _ _ none _) (valK _ _ _) (Value.ref _)) _ _ _); (with_reducible rename Fr _ _ _ _ => F'); (with_reducible rename News _ _ _ _ => N'); k_dflt (refine' slice_K2 (s := ⟨_, _, _, _, _⟩) F' N' ?h1Zq ?h2Zq ?hzZq ?_ ?hsZq ?htZq; (case h1Zq => constructor); (case h2Zq => constructor); (case hzZq => first | omega | ((simp only [List.length_append, List.length_take, List.length_drop, List.length_cons, List.length_nil]); omega)); (case hsZq => ((with_unfolding_all rfl))); (case htZq => (intro _; with_unfolding_all rfl)); k_whole); intro h' t' tk' F' N' hlen'; (try k_sweep)) | ((with_reducible show wpAny _ _ (binaryOp Operator.Add (valK _ _ _) (valK _ _ _)) _ _ _); k_dflt (refine' add_K ?hzZq ?h2Zq ?_; (case hzZq => first | omega | exact Nat.le_trans (normL_len _) (by omega) | ((simp only [List.length_append, List.length_take, List.length_drop, List.length_cons, List.length_nil]); omega)); (case h2Zq => first | omega | exact Nat.le_trans (normL_len _) (by omega) | ((simp only [List.length_append, List.length_take, List.length_drop, List.length_cons, List.length_nil]); omega)); k_whole); intro t' tk') | ((with_reducible show wpAny _ _ (compareOp CmpOp.Eq (valK _ _ _) (valK _ _ _)) _ _ _); k_dflt (refine' eq_K ?s1Zq ?s2Zq ?_; (case s1Zq => first | with_reducible assumption | exact ok_small (by with_reducible assumption) _ | exact ok_small (normL_small (by with_reducible assumption)) _ | exact OkK.tk (ok_small (by with_reducible assumption) _) _ | exact OkK.dr (ok_small (by with_reducible assumption) _) _ | exact OkK.tk (ok_small (normL_small (by with_reducible assumption)) _) _ | exact OkK.dr (ok_small (normL_small (by with_reducible assumption)) _) _ | (rw [List.take_append_drop]; exact ok_small (by with_reducible assumption) _)); (case s2Zq => first | with_reducible assumption | exact ok_small (by with_reducible assumption) _ | exact ok_small (normL_small (by with_reducible assumption)) _ | exact OkK.tk (ok_small (by with_reducible assumption) _) _ | exact OkK.dr (ok_small (by with_reducible assumption) _) _ | exact OkK.tk (ok_small (normL_small (by with_reducible assumption)) _) _ | exact OkK.dr (ok_small (normL_small (by with_reducible assumption)) _) _); k_whole)) | ((with_reducible show wpAny _ _ (compareOp CmpOp.In (Value.str (mkS _) _) (Value.ref _)) _ _ _); k_dflt (refine' in_T ?NZq ?mZq ?iZq ?_; (case NZq => k_asm); (case mZq => (repeat (first | (with_reducible assumption) | (with_reducible exact List.mem_cons_self ..) | (with_reducible refine List.mem_cons_of_mem _ ?_) | (with_reducible refine List.mem_append_right _ ?_)))); (case iZq => exact strs_lit3 _ _ _); k_whole)) | ((with_reducible show wpAny _ _ (subscriptTail _ _ (Value.ref _) (Value.int (-1) _)) _ _ _); k_dflt (refine kba_turn (value' := PySem.Expr.Name (PySem.Str.ofString "_") ⟨0, 0, 0, 0⟩) (fun _ => rfl) ?_; refine' itemLast_T ?NZq ?mZq ?iZq ?pZq ?zZq ?_ ?hsZq ?htZq; (case NZq => k_asm); (case mZq => (repeat (first | (with_reducible assumption) | (with_reducible exact List.mem_cons_self ..) | (with_reducible refine List.mem_cons_of_mem _ ?_) | (with_reducible refine List.mem_append_right _ ?_)))); (case iZq => with_reducible assumption); (case pZq => exact splitL_ne _ _); (case zZq => exact Nat.le_trans (splitL_length _ _) (by omega)); (case hsZq => with_unfolding_all rfl); (case htZq => (intro _; with_unfolding_all rfl)); k_whole); intro q' t' hq') | ((with_reducible show wpAny _ _ (compareOp CmpOp.NotEq (Value.ref _) (Value.ref _)) _ _ _); k_dflt (refine' pair_neK ?NZq ?mZq ?m2Zq ?uZq ?s1Zq ?s2Zq ?s3Zq ?s4Zq ?_; (case NZq => k_asm); (case mZq => (repeat (first | (with_reducible assumption) | (with_reducible exact List.mem_cons_self ..) | (with_reducible refine List.mem_cons_of_mem _ ?_) | (with_reducible refine List.mem_append_right _ ?_)))); (case m2Zq => (repeat (first | (with_reducible assumption) | (with_reducible exact List.mem_cons_self ..) | (with_reducible refine List.mem_cons_of_mem _ ?_) | (with_reducible refine List.mem_append_right _ ?_)))); (case uZq => ke_room); (case s1Zq => first | with_reducible assumption | exact ok_small (by with_reducible assumption) _ | exact ok_small (normL_small (by with_reducible assumption)) _ | exact OkK.tk (ok_small (by with_reducible assumption) _) _ | exact OkK.dr (ok_small (by with_reducible assumption) _) _ | exact OkK.tk (ok_small (normL_small (by with_reducible assumption)) _) _ | exact OkK.dr (ok_small (normL_small (by with_reducible assumption)) _) _ | exact OkK.sl (ok_small (by with_reducible assumption) _) _ _ | exact OkK.sl (ok_small (normL_small (by with_reducible assumption)) _) _ _ | exact ok_small (normL_small (Small.tk (by with_reducible assumption) _)) _); (case s2Zq => first | with_reducible assumption | exact ok_small (by with_reducible assumption) _ | exact ok_small (normL_small (by with_reducible assumption)) _ | exact OkK.tk (ok_small (by with_reducible assumption) _) _ | exact OkK.dr (ok_small (by with_reducible assumption) _) _ | exact OkK.tk (ok_small (normL_small (by with_reducible assumption)) _) _ | exact OkK.dr (ok_small (normL_small (by with_reducible assumption)) _) _ | exact OkK.sl (ok_small (by with_reducible assumption) _) _ _ | exact OkK.sl (ok_small (normL_small (by with_reducible assumption)) _) _ _ | exact ok_small (normL_small (Small.tk (by with_reducible assumption) _)) _); (case s3Zq => first | with_reducible assumption | exact ok_small (by with_reducible assumption) _ | exact ok_small (normL_small (by with_reducible assumption)) _ | exact OkK.tk (ok_small (by with_reducible assumption) _) _ | exact OkK.dr (ok_small (by with_reducible assumption) _) _ | exact OkK.tk (ok_small (normL_small (by with_reducible assumption)) _) _ | exact OkK.dr (ok_small (normL_small (by with_reducible assumption)) _) _ | exact OkK.sl (ok_small (by with_reducible assumption) _) _ _ | exact OkK.sl (ok_small (normL_small (by with_reducible assumption)) _) _ _ | exact ok_small (normL_small (Small.tk (by with_reducible assumption) _)) _); (case s4Zq => first | with_reducible assumption | exact ok_small (by with_reducible assumption) _ | exact ok_small (normL_small (by with_reducible assumption)) _ | exact OkK.tk (ok_small (by with_reducible assumption) _) _ | exact OkK.dr (ok_small (by with_reducible assumption) _) _ | exact OkK.tk (ok_small (normL_small (by with_reducible assumption)) _) _ | exact OkK.dr (ok_small (normL_small (by with_reducible assumption)) _) _ | exact OkK.sl (ok_small (by with_reducible assumption) _) _ _ | exact OkK.sl (ok_small (normL_small (by with_reducible assumption)) _) _ _ | exact ok_small (normL_small (Small.tk (by with_reducible assumption) _)) _); k_whole)) | ((with_reducible show wpAny _ _ (compareOp CmpOp.Eq (Value.ref _) (Value.ref _)) _ _ _); k_dflt (refine' pair_eqK ?NZq ?mZq ?m2Zq ?uZq ?s1Zq ?s2Zq ?s3Zq ?s4Zq ?_; (case NZq => k_asm); (case mZq => (repeat (first | (with_reducible assumption) | (with_reducible exact List.mem_cons_self ..) | (with_reducible refine List.mem_cons_of_mem _ ?_) | (with_reducible refine List.mem_append_right _ ?_)))); (case m2Zq => (repeat (first | (with_reducible assumption) | (with_reducible exact List.mem_cons_self ..) | (with_reducible refine List.mem_cons_of_mem _ ?_) | (with_reducible refine List.mem_append_right _ ?_)))); (case uZq => ke_room); (case s1Zq => first | with_reducible assumption | exact ok_small (by with_reducible assumption) _ | exact ok_small (normL_small (by with_reducible assumption)) _ | exact OkK.tk (ok_small (by with_reducible assumption) _) _ | exact OkK.dr (ok_small (by with_reducible assumption) _) _ | exact OkK.tk (ok_small (normL_small (by with_reducible assumption)) _) _ | exact OkK.dr (ok_small (normL_small (by with_reducible assumption)) _) _ | exact OkK.sl (ok_small (by with_reducible assumption) _) _ _ | exact OkK.sl (ok_small (normL_small (by with_reducible assumption)) _) _ _ | exact ok_small (normL_small (Small.tk (by with_reducible assumption) _)) _); (case s2Zq => first | with_reducible assumption | exact ok_small (by with_reducible assumption) _ | exact ok_small (normL_small (by with_reducible assumption)) _ | exact OkK.tk (ok_small (by with_reducible assumption) _) _ | exact OkK.dr (ok_small (by with_reducible assumption) _) _ | exact OkK.tk (ok_small (normL_small (by with_reducible assumption)) _) _ | exact OkK.dr (ok_small (normL_small (by with_reducible assumption)) _) _ | exact OkK.sl (ok_small (by with_reducible assumption) _) _ _ | exact OkK.sl (ok_small (normL_small (by with_reducible assumption)) _) _ _ | exact ok_small (normL_small (Small.tk (by with_reducible assumption) _)) _); (case s3Zq => first | with_reducible assumption | exact ok_small (by with_reducible assumption) _ | exact ok_small (normL_small (by with_reducible assumption)) _ | exact OkK.tk (ok_small (by with_reducible assumption) _) _ | exact OkK.dr (ok_small (by with_reducible assumption) _) _ | exact OkK.tk (ok_small (normL_small (by with_reducible assumption)) _) _ | exact OkK.dr (ok_small (normL_small (by with_reducible assumption)) _) _ | exact OkK.sl (ok_small (by with_reducible assumption) _) _ _ | exact OkK.sl (ok_small (normL_small (by with_reducible assumption)) _) _ _ | exact ok_small (normL_small (Small.tk (by with_reducible assumption) _)) _); (case s4Zq => first | with_reducible assumption | exact ok_small (by with_reducible assumption) _ | exact ok_small (normL_small (by with_reducible assumption)) _ | exact OkK.tk (ok_small (by with_reducible assumption) _) _ | exact OkK.dr (ok_small (by with_reducible assumption) _) _ | exact OkK.tk (ok_small (normL_small (by with_reducible assumption)) _) _ | exact OkK.dr (ok_small (normL_small (by with_reducible assumption)) _) _ | exact OkK.sl (ok_small (by with_reducible assumption) _) _ _ | exact OkK.sl (ok_small (normL_small (by with_reducible assumption)) _) _ _ | exact ok_small (normL_small (Small.tk (by with_reducible assumption) _)) _); k_whole)) | ((with_reducible show wpAny _ _ (call (Value.builtin "str.split") [Value.str (mkS _) _, Value.str _ _]) _ _ _); k_dflt (refine' strSplit_S ?FZq ?NZq ?yZq ?zZq ?_; (case FZq => k_asm); (case NZq => k_asm); (case yZq => first | with_reducible rfl | with_reducible exact lit_slash | with_reducible exact lit_dot | with_reducible exact lit_dd | with_reducible exact lit_nil); (case zZq => first | omega | exact Nat.le_trans (normL_len _) (by omega) | ((simp only [List.length_append, List.length_take, List.length_drop, List.length_cons, List.length_nil]); omega)); k_whole); intro D' us' h' tk' hS' F' N' l1; (try k_lt l1); (try k_sweep)) | ((with_reducible show wpAny _ _ (call (Value.ref 115) [valK _ _ _]) _ _ _); k_dflt (refine' Spec.use2 (by k_asm) (by k_asm) (by k_asm) (by k_asm) (by k_asm) (by first | exact rfl | assumption) (splitext_K _ _ _ _ ?p1Zq ?p2Zq) (by ktr_room) (by ktr_units) ?_; (case p1Zq => first | omega | exact Nat.le_trans (normL_len _) (by omega) | ((simp only [List.length_append, List.length_take, List.length_drop, List.length_cons, List.length_nil]); omega)); (case p2Zq => first | with_reducible assumption | exact ok_small (by with_reducible assumption) _ | exact ok_small (normL_small (by with_reducible assumption)) _ | exact OkK.tk (ok_small (by with_reducible assumption) _) _ | exact OkK.dr (ok_small (by with_reducible assumption) _) _ | exact OkK.tk (ok_small (normL_small (by with_reducible assumption)) _) _ | exact OkK.dr (ok_small (normL_small (by with_reducible assumption)) _) _); k_whole); intro led' v' h' tk' hR' hfr' F' N'; (obtain ⟨q', t1', t2', x1', x2', hV', hL', hX', hY'⟩ := hR'); subst hV' hL' hX' hY'; (have hfr2 := hfr' _ (List.Mem.head _)); (try k_lt hfr2); (try simp only [List.nil_append, List.cons_append] at F' N'); (try clear hfr'); k_sweep) | ((with_reducible show wpAny _ _ (call (Value.ref 132) [valK _ _ _]) _ _ _); k_dflt (refine' Spec.use2 (by k_asm) (by k_asm) (by k_asm) (by k_asm) (by k_asm) (by first | exact rfl | assumption) (normpath_K _ _ _ _ ?p1Zq ?p2Zq) (by ktr_room) (by ktr_units) ?_; (case p1Zq => first | omega | exact Nat.le_trans (normL_len _) (by omega) | ((simp only [List.length_append, List.length_take, List.length_drop, List.length_cons, List.length_nil]); omega)); (case p2Zq => first | with_reducible assumption | exact ok_small (by with_reducible assumption) _ | exact ok_small (normL_small (by with_reducible assumption)) _ | exact OkK.tk (ok_small (by with_reducible assumption) _) _ | exact OkK.dr (ok_small (by with_reducible assumption) _) _ | exact OkK.tk (ok_small (normL_small (by with_reducible assumption)) _) _ | exact OkK.dr (ok_small (normL_small (by with_reducible assumption)) _) _); k_whole); intro led' v' h' tk' hR' hfr' F' N'; (obtain ⟨hL', t', hV'⟩ := hR'); subst hL' hV'; (try simp only [List.nil_append, List.cons_append] at F' N'); (try clear hfr'); k_sweep) | ((with_reducible show wpAny _ _ (call (Value.ref 151) [Value.str (mkS _) _, Value.bool _]) _ _ _); k_dflt (refine' Spec.use2 (by k_asm) (by k_asm) (by k_asm) (by k_asm) (by k_asm) (by first | exact rfl | assumption) (made_K _ _ _ _ ?p1Zq ?p2Zq) (by ktr_room) (by ktr_units) ?_; (case p1Zq => first | omega | exact Nat.le_trans (normL_len _) (by omega) | ((simp only [List.length_append, List.length_take, List.length_drop, List.length_cons, List.length_nil]); omega)); (case p2Zq => first | with_reducible assumption | exact Small.sl (by with_reducible assumption) _ _ | exact Small.sl (normL_small (by with_reducible assumption)) _ _ | exact normL_small (by with_reducible assumption) | exact Small.tk (by with_reducible assumption) _ | exact Small.dr (by with_reducible assumption) _ | exact Small.tk (normL_small (by with_reducible assumption)) _ | exact Small.dr (normL_small (by with_reducible assumption)) _); k_whole); intro led' v' h' tk' hR' hfr' F' N'; (obtain ⟨hL', t', hV'⟩ := hR'); subst hL' hV'; (try simp only [List.nil_append, List.cons_append] at F' N'); (try clear hfr'); k_sweep) | ((with_reducible show wpAny _ _ (subscriptTail _ (Expr.Slice _ _ none _) (Value.str (mkS _) _) (Value.ref _)) _ _ _); (with_reducible rename Fr _ _ _ _ => F'); (with_reducible rename News _ _ _ _ => N'); k_dflt (refine' slice_S (s := ⟨_, _, _, _, _⟩) F' N' ?h1Zq ?h2Zq ?hzZq ?_; (case h1Zq => constructor); (case h2Zq => constructor); (case hzZq => omega); k_whole); intro h' t' tk' F' N' hlen'; (try k_sweep))); k_steps))
              · exact absurd (norm_sl _ _) (by assumption)
              · rw [StopG.eq, fin_dots (by assumption) (by assumption)]
                exact goodW_bool (by first | with_reducible assumption | assumption) (by with_reducible assumption) hrs hpost
              · rw [StopG.eq, fin_all]
                exact goodW_bool (by first | with_reducible assumption | assumption) (by with_reducible assumption) hrs hpost
              · exact absurd (fin_name (by assumption) (by assumption)) (by assumption)
)
end Mine
theorem PySem.Challenge.cw_ko0129_02_holds : PySem.Challenge.rw_ko0129_02.Holds := by
  exact Mine.law_holds
#print axioms PySem.Challenge.cw_ko0129_02_holds
